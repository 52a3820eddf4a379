/- The walk of (*index).put, ZZPut. -/
import Derived.Test.Qxb6600474aAt
import Derived.Test.Qxb6600474aPlain
import Derived.Deep.LoopGhost
namespace Go.Proofs.Qxb6600474a
open Go.RowKit
set_option linter.unusedVariables false

/-- The zero value of a slot, and the run that makes a chunk. -/
theorem Try.info38 : (Try.prog.info? 38).map (fun i => (i.zero, i.size, i.bytes)) = some (some (.agg #[.int .u64 0, .int .i64 0, .int .i64 0, .int .i64 0]), 4, 32) := by kernel_rfl

theorem chunk_runs (w : World) (S : Nat) (hS : S ≤ 4096) : ∃ W1 : World, (Instr.makeSlice 43 (.int .i64 (S : Int)) (.int .i64 (S : Int))).run Try.prog w = .ok (.slice (some ⟨w.heap.size, 0, none⟩) S S) W1 ∧ Below w.heap.size w W1 ∧ w.heap.size < W1.heap.size ∧
    ∀ r, r < S → ∀ f, f < 4 → W1.cell? ⟨w.heap.size, r * 4 + f, none⟩ = some (.int (kd f) 0) ∧ W1.frozen? ⟨w.heap.size, r * 4 + f, none⟩ = false := by
  obtain ⟨i, hi, hz0, hz1, hz2⟩ := info_parts Try.info38
  have hmk := run_make (P := Try.prog) w 43 38 i _ Try.underlying43 hi hz0 .i64 .i64 S S (by omega) (by omega) (by rw [hz2]; omega) (by omega)
  simp only [Int.toNat_natCast, hz1] at hmk
  refine ⟨_, hmk, (Below.refl _ _).alloc (Nat.le_refl _) _, by simp, fun r hr f hf => ⟨?_, World.frozen?_alloc_at _ _ _ _ rfl⟩⟩
  rw [World.cell?_alloc_at _ _ _ _ rfl]
  have hz : (Value.agg #[Value.int .u64 0, .int .i64 0, .int .i64 0, .int .i64 0]).cells = #[Value.int .u64 0, .int .i64 0, .int .i64 0, .int .i64 0] := rfl
  rw [hz, madeCells]
  have hlt : r * 4 + f < S * 4 := by omega
  have hm : (r * 4 + f) % 4 = f := by omega
  rw [Array.getElem?_eq_getElem (by simpa using hlt)]
  simp only [Array.getElem_map, Array.getElem_range, List.size_toArray, List.length_cons, List.length_nil, Nat.zero_add, Nat.reduceAdd, hm]
  match f, hf with
  | 0, _ => rfl
  | 1, _ => rfl
  | 2, _ => rfl
  | 3, _ => rfl

theorem Ix.putAll {base : Nat} {w : World} {X C S nc size : Nat} {ch : Nat → Option Nat} {cs : Nat → Nat → Int} {used : Nat} (h : Ix base w X C S nc size ch cs used) (q B r : Nat) (hq : q < nc) (hB : ch q = some B) (hr : r < S) (hash n o v : Int) :
    Ix base (((((w.setCell ⟨B, r * 4, none⟩ (.int .u64 hash)).setCell ⟨B, r * 4 + 1, none⟩ (.int .i64 n)).setCell ⟨B, r * 4 + 2, none⟩ (.int .i64 o)).setCell ⟨B, r * 4 + 3, none⟩ (.int .i64 v)).setCell ⟨X, 2, none⟩ (.int .i64 ((used : Int) + 1))) X C S nc size ch (updS cs (4096 * q + r) hash n o v) (used + 1) ∧
    Below base w (((((w.setCell ⟨B, r * 4, none⟩ (.int .u64 hash)).setCell ⟨B, r * 4 + 1, none⟩ (.int .i64 n)).setCell ⟨B, r * 4 + 2, none⟩ (.int .i64 o)).setCell ⟨B, r * 4 + 3, none⟩ (.int .i64 v)).setCell ⟨X, 2, none⟩ (.int .i64 ((used : Int) + 1))) := by
  have h1 := h.setField q B r 0 hq hB hr (by omega) hash
  have h2 := h1.setField q B r 1 hq hB hr (by omega) n
  have h3 := h2.setField q B r 2 hq hB hr (by omega) o
  have h4 := h3.setField q B r 3 hq hB hr (by omega) v
  have lb := h.lo.2.2 q B hq hB
  exact ⟨h4.setUsed (used + 1), (((((Below.refl base w).setCell lb _).setCell lb _).setCell lb _).setCell lb _).setCell h.lo.1 _⟩

set_option maxRecDepth 100000 in
set_option maxHeartbeats 1000000 in
theorem put_any (base : Nat) (w : World) (X C S nc size e : Nat) (ch : Nat → Option Nat) (cs : Nat → Nat → Int) (used : Nat) (h : Ix base w X C S nc size ch cs used) (he : e ≤ 16) (hsz : 2 ^ e = size) (hS : min size 4096 = S) (hnc : ∀ i, i < size → i / 4096 < nc ∧ i % 4096 < S) (hnc2 : nc ≤ 16) (hub : used ≤ 65536) (hbase : base ≤ w.heap.size)
    (hash : Nat) (hh : hash < 18446744073709551616) (n o v : Int) (home P T : Nat) (hhome : hash % size = home) (hP : (home + T) % size = P) (hT : T < size) (hfree : cs P 1 = 0) (hocc : ∀ t, t < T → cs ((home + t) % size) 1 ≠ 0) :
    Calls Try.prog 14 #[.pointer (some ⟨X, 0, none⟩), .agg #[.int .u64 (hash : Int), .int .i64 n, .int .i64 o, .int .i64 v]] w fun e w' => e = .returned (.tuple #[]) ∧ ∃ ch', Ix base w' X C S nc size ch' (updS cs P hash n o v) (used + 1) ∧ Below base w w' := by
  have hsb : size ≤ 65536 := by
    have h1 : 2 ^ e ≤ 2 ^ 16 := Nat.pow_le_pow_right (by omega) he
    have h2 : (2 : Nat) ^ 16 = 65536 := rfl
    omega
  have hpos : 0 < size := by rw [← hsz]; exact Nat.two_pow_pos e
  have hb0 : Below w.heap.size w (w.alloc (.cells #[.int .u64 (hash : Int), .int .i64 n, .int .i64 o, .int .i64 v] 38)) := (Below.refl _ _).alloc (Nat.le_refl _) _
  obtain ⟨W0, hW0⟩ : ∃ W0, w.alloc (.cells #[.int .u64 (hash : Int), .int .i64 n, .int .i64 o, .int .i64 v] 38) = W0 := ⟨_, rfl⟩
  have s0 : W0.cell? ⟨w.heap.size, 0, none⟩ = some (.int .u64 (hash : Int)) := by rw [← hW0, World.cell?_alloc_at _ _ _ _ rfl]; rfl
  have s1 : W0.cell? ⟨w.heap.size, 1, none⟩ = some (.int .i64 n) := by rw [← hW0, World.cell?_alloc_at _ _ _ _ rfl]; rfl
  have s2 : W0.cell? ⟨w.heap.size, 2, none⟩ = some (.int .i64 o) := by rw [← hW0, World.cell?_alloc_at _ _ _ _ rfl]; rfl
  have s3 : W0.cell? ⟨w.heap.size, 3, none⟩ = some (.int .i64 v) := by rw [← hW0, World.cell?_alloc_at _ _ _ _ rfl]; rfl
  rw [hW0] at hb0
  have h0 := h.below hb0
  have hm := mask_hash hash hh e he size hsz
  rw [hhome] at hm
  have hhl : home < size := by rw [← hhome]; exact Nat.mod_lt _ hpos
  have x1 := h0.x1
  have hsW : w.heap.size < W0.heap.size := by rw [← hW0]; simp
  have hBs : ∀ q B, q < nc → ch q = some B → B < w.heap.size := fun q B hq hB => World.block_lt_of_cell? _ _ (h.b q hq B hB 0 h.s4.2 0 (by omega))
  have hXl : X < w.heap.size := World.block_lt_of_cell? _ _ h.x0
  have hCl : C < w.heap.size := World.block_lt_of_cell? _ _ (h.c (home / 4096) (hnc home hhl).1)
  have HI : Hid (Ix base W0 X C S nc size ch cs used) := h0
  have HB0 : Hid (Below w.heap.size w W0) := hb0
  have HF : Hid (cs P 1 = 0) := hfree
  have HO : Hid (∀ t, t < T → cs ((home + t) % size) 1 ≠ 0) := hocc
  have HN : Hid (∀ i, i < size → i / 4096 < nc ∧ i % 4096 < S) := hnc
  have HBS : Hid (∀ q B, q < nc → ch q = some B → B < w.heap.size) := hBs
  have HZ : Hid (2 ^ e = size) := hsz
  have HP : Hid ((home + T) % size = P) := hP
  have hSm : min (size : Int) 4096 = (S : Int) := by omega
  have hS4 : S ≤ 4096 := by omega
  clear h h0 hb0 hfree hocc hnc hS hsz hhome hP hBs
  go_enter Try.func14, Try.ntmps14
  go_wp2
  clear hW0 hm
  go_loopg [5] T (fun k i wr => ∃ t p : Nat, t + k = T ∧ i = .int .i64 (p : Int) ∧ p < size ∧ Hid ((home + t) % size = p) ∧ wr = W0)
  case atStart => exact ⟨0, home, by omega, rfl, hhl, Nat.mod_eq_of_lt hhl, rfl⟩
  case round =>
    obtain ⟨t, p, htk, rfl, hpl, HPt, hwr⟩ := hrel
    subst hwr
    have q43 : ∀ (w : World) (a : Option Addr) (n c n' c' : Nat), (binOp .eql 43 (.slice a n c) (.slice none n' c')).run Try.prog w = .ok (.bool a.isNone) w := fun w a n c n' c' => Lib.run_eql_slice_nil w _ _ a n c n' c' Try.underlying43
    have hq := (HN.out p hpl).1
    have hr := (HN.out p hpl).2
    have hq' : (p : Int) / 4096 < nc := by omega
    have hr' : (p : Int) % 4096 < S := by omega
    have x0 := HI.out.x0
    have hidx : 4096 * (p / 4096) + p % 4096 = p := by omega
    by_cases htT : t < T
    · have hoc := HO.out t htT
      rw [HPt.out] at hoc
      cases hB : ch (p / 4096) with
      | none =>
        have := HI.out.free (p / 4096) hq hB (p % 4096) hr 1
        rw [hidx] at this
        exact absurd this hoc
      | some B =>
        have hc := HI.out.c (p / 4096) hq
        rw [hB, chv] at hc
        have b1 := HI.out.b (p / 4096) hq B hB (p % 4096) hr 1 (by omega)
        rw [hidx] at b1
        simp only [kd, if_neg (show ¬ (1 : Nat) = 0 by omega)] at b1
        obtain ⟨y, hy⟩ : ∃ y, cs p 1 = y := ⟨_, rfl⟩
        rw [hy] at b1 hoc
        have hy0 : (y == 0) = false := beq_eq_false_iff_ne.2 hoc
        have hmn := mask_next p (by omega) e he size HZ.out
        obtain ⟨p', hp'⟩ : ∃ p', (p + 1) % size = p' := ⟨_, rfl⟩
        rw [hp'] at hmn
        have HP' : Hid ((p + 1) % size = p') := hp'
        have hpl' : p' < size := by rw [← hp']; exact Nat.mod_lt _ hpos
        clear hB hy hp' hidx hoc s0 s1 s2 s3
        go_wp2
        go_roundg (T - (t + 1))
        case measure => omega
        case rel => exact ⟨t + 1, p', by omega, by go_num, hpl', show _ = _ from by rw [← HP'.out, ← HPt.out, next_mod], rfl⟩
    · have hPp : p = P := by
        rw [← HPt.out, ← HP.out, show t = T by omega]
      subst hPp
      have hx2 := HI.out.x2
      have hxf := HI.out.xf
      have hF := HF.out
      cases hB : ch (p / 4096) with
      | some B =>
        have hc := HI.out.c (p / 4096) hq
        rw [hB, chv] at hc
        have b0 := HI.out.b (p / 4096) hq B hB (p % 4096) hr 0 (by omega)
        have b1 := HI.out.b (p / 4096) hq B hB (p % 4096) hr 1 (by omega)
        have b2 := HI.out.b (p / 4096) hq B hB (p % 4096) hr 2 (by omega)
        have b3 := HI.out.b (p / 4096) hq B hB (p % 4096) hr 3 (by omega)
        have f0 := HI.out.bf (p / 4096) hq B hB (p % 4096) hr 0 (by omega)
        have f1 := HI.out.bf (p / 4096) hq B hB (p % 4096) hr 1 (by omega)
        have f2 := HI.out.bf (p / 4096) hq B hB (p % 4096) hr 2 (by omega)
        have f3 := HI.out.bf (p / 4096) hq B hB (p % 4096) hr 3 (by omega)
        rw [hidx] at b0 b1 b2 b3
        rw [hF] at b1
        have HBq : Hid (ch (p / 4096) = some B) := hB
        have hBX := (HI.out.ne _ _ hq hB).1
        have hBC := (HI.out.ne _ _ hq hB).2
        have hBl := HBS.out _ _ hq hB
        simp only [kd, if_true, if_neg (show ¬ (1 : Nat) = 0 by omega), if_neg (show ¬ (2 : Nat) = 0 by omega), if_neg (show ¬ (3 : Nat) = 0 by omega), Nat.add_zero] at b0 b1 b2 b3 f0 f1 f2 f3
        clear hB hidx hF
        go_wp2
        refine bodyPost_ret (results_none rfl _ _ _) rfl ?_
        have hI := HI.out.putAll (p / 4096) B (p % 4096) hq HBq.out hr hash n o v
        rw [show 4096 * (p / 4096) + p % 4096 = p by omega] at hI
        refine ⟨rfl, ch, hI.1, ?_⟩
        exact (HB0.out.mono hbase).trans hI.2
      | none =>
        obtain ⟨W1, hmk, hbW, hWs, hz⟩ := chunk_runs wr S hS4
        have HZ2 := HI.out.setChunk (p / 4096) hq hB W1 wr.heap.size hbW (Nat.le_refl _) (by omega) hz
        have HW2 : Hid (Ix base (W1.setCell ⟨C, p / 4096, none⟩ (.slice (some ⟨wr.heap.size, 0, none⟩) S S)) X C S nc size (updC ch (p / 4096) wr.heap.size) cs used) := HZ2
        have HW1 : Hid (Below base w (W1.setCell ⟨C, p / 4096, none⟩ (.slice (some ⟨wr.heap.size, 0, none⟩) S S))) := ((HB0.out.mono hbase).trans (hbW.mono (by omega))).setCell HI.out.lo.2.1 _
        have hc := HI.out.c (p / 4096) hq
        rw [hB, chv] at hc
        have hC1 : W1.cell? ⟨C, p / 4096, none⟩ = some (.slice none 0 0) := by rw [hbW.cell (by show C < _; omega)]; exact hc
        have hF1 : W1.frozen? ⟨C, p / 4096, none⟩ = false := by rw [hbW.frozen (by show C < _; omega)]; exact HI.out.cf _ hq
        have x0' : W1.cell? ⟨X, 0, none⟩ = _ := (hbW.cell (by show X < _; omega)).trans x0
        have x1' : W1.cell? ⟨X, 1, none⟩ = _ := (hbW.cell (by show X < _; omega)).trans x1
        have x2' : W1.cell? ⟨X, 2, none⟩ = _ := (hbW.cell (by show X < _; omega)).trans hx2
        have xf' : W1.frozen? ⟨X, 2, none⟩ = _ := (hbW.frozen (by show X < _; omega)).trans hxf
        have s0' : W1.cell? ⟨w.heap.size, 0, none⟩ = _ := (hbW.cell (by show w.heap.size < _; omega)).trans s0
        have s1' : W1.cell? ⟨w.heap.size, 1, none⟩ = _ := (hbW.cell (by show w.heap.size < _; omega)).trans s1
        have s2' : W1.cell? ⟨w.heap.size, 2, none⟩ = _ := (hbW.cell (by show w.heap.size < _; omega)).trans s2
        have s3' : W1.cell? ⟨w.heap.size, 3, none⟩ = _ := (hbW.cell (by show w.heap.size < _; omega)).trans s3
        obtain ⟨b0, f0⟩ := hz (p % 4096) hr 0 (by omega)
        obtain ⟨b1, f1⟩ := hz (p % 4096) hr 1 (by omega)
        obtain ⟨b2, f2⟩ := hz (p % 4096) hr 2 (by omega)
        obtain ⟨b3, f3⟩ := hz (p % 4096) hr 3 (by omega)
        have hXC := HI.out.xc
        simp only [kd, if_true, if_neg (show ¬ (1 : Nat) = 0 by omega), if_neg (show ¬ (2 : Nat) = 0 by omega), if_neg (show ¬ (3 : Nat) = 0 by omega), Nat.add_zero] at b0 b1 b2 b3 f0 f1 f2 f3
        obtain ⟨B, hBe⟩ : ∃ B, wr.heap.size = B := ⟨_, rfl⟩
        rw [hBe] at hmk b0 b1 b2 b3 f0 f1 f2 f3 hsW HW2 HW1
        have hBX : B ≠ X := by omega
        have hBC : B ≠ C := by omega
        have hWB : w.heap.size ≠ B := by omega
        have hWC : w.heap.size ≠ C := by omega
        clear hB hidx hF hBe hz hWs hbW s0 s1 s2 s3 hx2 hxf HZ2
        rcases Nat.lt_or_ge 4096 size with h4 | h4
        · have hS' : (S : Int) = 4096 := by omega
          rw [hS'] at hmk
          have h4' : (4096 : Int) < size := by omega
          have h4'' : ¬ (size : Int) < 4096 := by omega
          go_wp2
          refine bodyPost_ret (results_none rfl _ _ _) rfl ?_
          have hI := HW2.out.putAll (p / 4096) B (p % 4096) hq (by simp [updC]) hr hash n o v
          rw [show 4096 * (p / 4096) + p % 4096 = p by omega] at hI
          first | exact ⟨rfl, ⟨_, hI.1⟩, HW1.out.trans hI.2⟩ | exact ⟨rfl, _, hI.1, HW1.out.trans hI.2⟩
        · have hS' : (S : Int) = size := by omega
          rw [hS'] at hmk
          have h4' : (size : Int) ≤ 4096 := by omega
          have h4'' : ¬ (4096 : Int) < size := by omega
          go_wp2
          refine bodyPost_ret (results_none rfl _ _ _) rfl ?_
          have hI := HW2.out.putAll (p / 4096) B (p % 4096) hq (by simp [updC]) hr hash n o v
          rw [show 4096 * (p / 4096) + p % 4096 = p by omega] at hI
          first | exact ⟨rfl, ⟨_, hI.1⟩, HW1.out.trans hI.2⟩ | exact ⟨rfl, _, hI.1, HW1.out.trans hI.2⟩

end Go.Proofs.Qxb6600474a
