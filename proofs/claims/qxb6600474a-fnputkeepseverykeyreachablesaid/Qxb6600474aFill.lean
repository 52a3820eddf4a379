/- The walks of ZZPut, ZZNewIndex, zzFill. -/
import Derived.Test.Qxb6600474aPut
namespace Go.Proofs.Qxb6600474a
open Go.RowKit
set_option linter.unusedVariables false

/-- What a put leaves. -/
def PutPost (base : Nat) (w : World) (X C S nc size : Nat) (cs : Nat → Nat → Int) (used : Nat) (e : Ending) (w' : World) : Prop :=
  e = .returned (.tuple #[]) ∧ ∃ ch', Ix base w' X C S nc size ch' cs used ∧ Below base w w'

theorem zzput_any (base : Nat) (w : World) (X C S nc size e : Nat) (ch : Nat → Option Nat) (cs : Nat → Nat → Int) (used : Nat) (h : Ix base w X C S nc size ch cs used) (he : e ≤ 16) (hsz : 2 ^ e = size) (hS : min size 4096 = S) (hnc : ∀ i, i < size → i / 4096 < nc ∧ i % 4096 < S) (hnc2 : nc ≤ 16) (hub : used ≤ 65536) (hbase : base ≤ w.heap.size)
    (hash : Nat) (hh : hash < 18446744073709551616) (n o v : Int) (home P T : Nat) (hhome : hash % size = home) (hP : (home + T) % size = P) (hT : T < size) (hfree : cs P 1 = 0) (hocc : ∀ t, t < T → cs ((home + t) % size) 1 ≠ 0) :
    Calls Try.prog 12 #[.pointer (some ⟨X, 0, none⟩), .int .u64 (hash : Int), .int .i64 n, .int .i64 o, .int .i64 v] w (PutPost base w X C S nc size (updS cs P hash n o v) (used + 1)) := by
  have H14 : Hid (Calls Try.prog 14 #[.pointer (some ⟨X, 0, none⟩), .agg #[.int .u64 (hash : Int), .int .i64 n, .int .i64 o, .int .i64 v]] w (PutPost base w X C S nc size (updS cs P hash n o v) (used + 1))) :=
    put_any base w X C S nc size e ch cs used h he hsz hS hnc hnc2 hub hbase hash hh n o v home P T hhome hP hT hfree hocc
  clear h hhome hP hfree hocc hsz hS hnc
  go_enter Try.func12, Try.ntmps12
  go_wp2_with fail
  refine H14.out.mono ?_
  rintro e w' ⟨rfl, h2⟩
  have H2 : Hid (∃ ch', Ix base w' X C S nc size ch' (updS cs P hash n o v) (used + 1) ∧ Below base w w') := h2
  clear h2
  go_wp2
  go_end0
  exact ⟨rfl, H2.out⟩

theorem Try.info43 : (Try.prog.info? 43).map (fun i => (i.zero, i.size, i.bytes)) = some (some (.slice none 0 0), 1, 24) := by kernel_rfl

theorem chunks_run (w : World) (nc : Nat) (hnc : nc ≤ 16) : ∃ W1 : World, (Instr.makeSlice 39 (.int .i64 (nc : Int)) (.int .i64 (nc : Int))).run Try.prog w = .ok (.slice (some ⟨w.heap.size, 0, none⟩) nc nc) W1 ∧ Below w.heap.size w W1 ∧ w.heap.size < W1.heap.size ∧
    ∀ r, r < nc → W1.cell? ⟨w.heap.size, r, none⟩ = some (.slice none 0 0) ∧ W1.frozen? ⟨w.heap.size, r, none⟩ = false := by
  obtain ⟨i, hi, hz0, hz1, hz2⟩ := info_parts Try.info43
  have hmk := run_make (P := Try.prog) w 39 43 i _ Try.underlying39 hi hz0 .i64 .i64 nc nc (by omega) (by omega) (by rw [hz2]; omega) (by omega)
  simp only [Int.toNat_natCast, hz1] at hmk
  refine ⟨_, hmk, (Below.refl _ _).alloc (Nat.le_refl _) _, by simp, fun r hr => ⟨?_, World.frozen?_alloc_at _ _ _ _ rfl⟩⟩
  rw [World.cell?_alloc_at _ _ _ _ rfl]
  have hz : (Value.slice none 0 0).cells = #[Value.slice none 0 0] := rfl
  rw [hz, madeCells]
  rw [Array.getElem?_eq_getElem (by simpa using hr)]
  simp [Nat.mod_one]

/-- What ZZNewIndex leaves. -/
def NewPost (w : World) (S nc size : Nat) (e : Ending) (w' : World) : Prop :=
  ∃ X C, e = .returned (.pointer (some ⟨X, 0, none⟩)) ∧ Ix w.heap.size w' X C S nc size (fun _ => none) (fun _ _ => 0) 0 ∧ Below w.heap.size w w' ∧ w.heap.size ≤ w'.heap.size

theorem new_any (w : World) (size S nc : Nat) (hsb : size ≤ 65536) (hpos : 0 < size) (hS : min size 4096 = S) (hnc : (size + 4095) / 4096 = nc) :
    Calls Try.prog 11 #[.int .i64 (size : Int)] w (NewPost w S nc size) := by
  have hd : ((size : Int) + 4096 - 1) / 4096 = (nc : Int) := by omega
  have hd' : ((size : Int) + 4095) / 4096 = (nc : Int) := by omega
  have hd2 : Int.tdiv ((size : Int) + 4095) 4096 = (nc : Int) := by rw [Int.tdiv_eq_ediv_of_nonneg (by omega)]; omega
  have hn16 : nc ≤ 16 := by omega
  obtain ⟨W1, hmk, hb, hlt, hz⟩ := chunks_run w nc hn16
  have HB : Hid (Below w.heap.size w W1) := hb
  have HZ : Hid (∀ r, r < nc → W1.cell? ⟨w.heap.size, r, none⟩ = some (.slice none 0 0) ∧ W1.frozen? ⟨w.heap.size, r, none⟩ = false) := hz
  have HS : Hid (min size 4096 = S) := hS
  have HP : Hid (NewPost w S nc size = NewPost w S nc size) := rfl
  clear hb hz hS
  go_enter Try.func11, Try.ntmps11
  go_wp2
  go_ret
  have hb2 : Below W1.heap.size W1 (W1.alloc (Obj.cells #[Value.slice (some ⟨w.heap.size, 0, none⟩) nc nc, Value.int .i64 (size : Int), Value.int .i64 0] 41)) := (Below.refl _ _).alloc (Nat.le_refl _) _
  have hmin := HS.out
  refine ⟨W1.heap.size, w.heap.size, rfl, ?_, HB.out.trans (hb2.mono (by omega)), by simp; omega⟩
  refine ⟨?_, ?_, ?_, World.frozen?_alloc_at _ _ _ _ rfl, fun q hq => ?_, fun q hq => ?_, fun q hq B hB => (by cases hB), fun q hq B hB => (by cases hB), fun q hq hB r hr f => rfl, fun q q' B hq hq' hB => (by cases hB), fun q B hq hB => (by cases hB), by omega, ⟨by omega, Nat.le_refl _, fun q B hq hB => (by cases hB)⟩, by omega⟩
  · rw [World.cell?_alloc_at _ _ _ _ rfl]; rfl
  · rw [World.cell?_alloc_at _ _ _ _ rfl]; rfl
  · rw [World.cell?_alloc_at _ _ _ _ rfl]; rfl
  · rw [hb2.cell (by show w.heap.size < _; omega)]; exact (HZ.out q hq).1
  · rw [hb2.frozen (by show w.heap.size < _; omega)]; exact (HZ.out q hq).2

/-- After j puts. -/
def FillInv (w : World) (X C S nc size : Nat) (hs : List Nat) (j : Nat) (wr : World) : Prop :=
  ∃ ch cs, Ix w.heap.size wr X C S nc size ch cs j ∧ Filled hs size cs j ∧ Below w.heap.size w wr

/-- What zzFill leaves. -/
def FillPost (w : World) (S nc size : Nat) (hs : List Nat) (j : Nat) (e : Ending) (w' : World) : Prop :=
  ∃ X C, e = .returned (.pointer (some ⟨X, 0, none⟩)) ∧ FillInv w X C S nc size hs j w'

theorem FillInv.put {w wr w' : World} {X C S nc size : Nat} {hs : List Nat} {j : Nat} {e : Ending} (ch : Nat → Option Nat) (cs : Nat → Nat → Int) (hF : Filled hs size cs j) (hB : Below w.heap.size w wr) (hpos : 0 < size) (T : Nat) (hT : T < size) (hf : cs ((hs.getD j 0 % size + T) % size) 1 = 0) (ht : ∀ t, t < T → cs ((hs.getD j 0 % size + t) % size) 1 ≠ 0) (hv v : Int)
    (hp : PutPost w.heap.size wr X C S nc size (updS cs ((hs.getD j 0 % size + T) % size) hv ((j : Int) + 1) (j : Int) v) (j + 1) e w') : e = .returned (.tuple #[]) ∧ Hid (FillInv w X C S nc size hs (j + 1) w') := by
  obtain ⟨he, ch', hI, hb⟩ := hp
  exact ⟨he, show FillInv _ _ _ _ _ _ _ _ _ from ⟨ch', _, hI, hF.put hpos T hT hf ht hv v, hB.trans hb⟩⟩

theorem fill_any (w : World) (a : Option Addr) (len cap size S nc e : Nat) (zs : List Int) (hs : List Nat) (hl : zs.length = len) (hz : ∀ j, j < len → zs.getD j 0 = ((hs.getD j 0 : Nat) : Int) ∧ hs.getD j 0 < 18446744073709551616) (hR : Row .u64 w a zs) (hle : len ≤ size) (he : e ≤ 16) (hsz : 2 ^ e = size) (hS : min size 4096 = S) (hnc : (size + 4095) / 4096 = nc) :
    Calls Try.prog 7 #[.int .i64 (size : Int), .slice a len cap] w (FillPost w S nc size hs len) := by
  have hsb : size ≤ 65536 := by
    have h1 : 2 ^ e ≤ 2 ^ 16 := Nat.pow_le_pow_right (by omega) he
    have h2 : (2 : Nat) ^ 16 = 65536 := rfl
    omega
  have hpos : 0 < size := by rw [← hsz]; exact Nat.two_pow_pos e
  have hn16 : nc ≤ 16 := by omega
  have HN : Hid (∀ i, i < size → i / 4096 < nc ∧ i % 4096 < S) := fun i hi => by omega
  have H11 : Hid (Calls Try.prog 11 #[.int .i64 (size : Int)] w (NewPost w S nc size)) := new_any w size S nc hsb hpos hS hnc
  have HS : Hid (min size 4096 = S) := hS
  have HZ : Hid (2 ^ e = size) := hsz
  have HR : Hid (Row .u64 w a zs) := hR
  have HL : Hid (zs.length = len) := hl
  have HV : Hid (∀ j, j < len → zs.getD j 0 = ((hs.getD j 0 : Nat) : Int) ∧ hs.getD j 0 < 18446744073709551616) := hz
  clear hS hnc hsz hR hl hz
  go_enter Try.func7, Try.ntmps7
  go_wp2_with fail
  refine H11.out.mono ?_
  rintro e' W0 ⟨X, C, rfl, hI, hB, hlt⟩
  have HX : Hid (FillInv w X C S nc size hs 0 W0) := show FillInv _ _ _ _ _ _ _ _ _ from ⟨_, _, hI, Filled.start hs size, hB⟩
  clear hI hB hlt
  go_wp2
  go_loopw [6] (fun i wr => ∃ j : Nat, j ≤ len ∧ i = .int .i64 j ∧ Hid (FillInv w X C S nc size hs j wr)) (fun i _ => len - (intOf i).toNat)
  case atStart => exact ⟨0, Nat.zero_le _, rfl, HX⟩
  case round =>
    obtain ⟨j, hj, rfl, HJ⟩ := hrel
    by_cases hlt : j < len
    · obtain ⟨ch, cs, hI, hF, hB⟩ := HJ.out
      obtain ⟨b, off, hx, hck⟩ : ∃ b off, a = some ⟨b, off, none⟩ ∧ wr.cell? ⟨b, off + j, none⟩ = some (.int .u64 (zs.getD j 0)) := by
        rcases HR.out.below hB with h | ⟨b, off, h1, h2⟩
        · have := HL.out; rw [h] at this; simp at this; omega
        · exact ⟨b, off, h1, h2 j (by rw [HL.out]; exact hlt)⟩
      subst hx
      obtain ⟨hv1, hv2⟩ := HV.out j hlt
      rw [hv1] at hck
      have hhome : hs.getD j 0 % size < size := Nat.mod_lt _ hpos
      obtain ⟨T, hT, hf, ht⟩ := first_free cs (hs.getD j 0 % size) size hhome (by rw [hF.1]; omega)
      have H12 := zzput_any w.heap.size wr X C S nc size e ch cs j hI he HZ.out HS.out HN.out hn16 (by omega) hB.size (hs.getD j 0) hv2 ((j : Int) + 1) (j : Int) (-(j : Int)) _ _ T rfl rfl hT hf ht
      have H12' : Hid (Calls Try.prog 12 #[.pointer (some ⟨X, 0, none⟩), .int .u64 ((hs.getD j 0 : Nat) : Int), .int .i64 ((j : Int) + 1), .int .i64 (j : Int), .int .i64 (-(j : Int))] wr fun e w' => e = .returned (.tuple #[]) ∧ Hid (FillInv w X C S nc size hs (j + 1) w')) :=
        H12.mono fun e w' hp => FillInv.put ch cs hF hB hpos T hT hf ht _ _ hp
      obtain ⟨hh, hhe⟩ : ∃ hh, hs.getD j 0 = hh := ⟨_, rfl⟩
      rw [hhe] at hck H12'
      clear hI hF hB hv1 hv2 hhome hf ht hT H12 hhe
      go_wp2_with fail
      refine H12'.out.mono ?_
      rintro e' w' ⟨rfl, HJ'⟩
      go_wp2
      go_roundw
      case rel => exact ⟨j + 1, by omega, by go_num, HJ'⟩
      case measure => simp [intOf]; omega
    · obtain rfl : j = len := by omega
      go_wp2
      go_ret
      exact ⟨X, C, rfl, HJ.out⟩

end Go.Proofs.Qxb6600474a
