/- The walk of FnPutKeepsEveryKeyReachable. -/
import Derived.Test.Qxb6600474aFill
namespace Go.Proofs.Qxb6600474a
open Go.RowKit
set_option linter.unusedVariables false

theorem bytes_no (k : Int) (a : Option Addr) (len cap : Nat) (w : World) (hl : 1048576 < len) :
    Calls Try.prog 5 #[.int .i64 k, .slice a len cap] w fun e w' => e = .returned (.bool false) ∧ w = w' := by
  have hl' : (1048576 : Int) < len := by omega
  go_enter Try.func5, Try.ntmps5
  go_wp2
  go_ret
  exact ⟨rfl, rfl⟩

theorem bytes_yes (k : Int) (a : Option Addr) (len cap : Nat) (w : World) (hl : len ≤ 1048576) :
    Calls Try.prog 5 #[.int .i64 k, .slice a len cap] w fun e w' => e = .returned (.bool true) ∧ w = w' := by
  have hl' : ¬ (1048576 : Int) < len := by omega
  go_enter Try.func5, Try.ntmps5
  go_wp2
  go_ret
  exact ⟨rfl, rfl⟩

theorem shl_size (e : Nat) (he : e ≤ 16) (size : Nat) (hsz : 2 ^ e = size) : wrap64 ((2 : Int) ^ e) = (size : Int) := by
  have h1 : 2 ^ e ≤ 2 ^ 16 := Nat.pow_le_pow_right (by omega) he
  have h2 : (2 : Nat) ^ 16 = 65536 := rfl
  have h3 : ((2 : Int) ^ e) = ((2 ^ e : Nat) : Int) := by rw [Int.natCast_pow]; rfl
  rw [h3, hsz]
  unfold wrap64
  omega

theorem InRow.wf {w : World} {a : Option Addr} {len cap : Nat} {z : List Int} (h : InRow .u64 w a len cap z) (zs : List Int) (hz : z.take len = zs) (n : Int) (hn : n ∈ zs) : 0 ≤ n ∧ n < 18446744073709551616 := by
  subst hz
  have hn' := List.mem_of_mem_take hn
  rcases h with ⟨_, _, _, rfl⟩ | ⟨x, _, _, _, _, _, hw⟩
  · simp at hn'
  · have := hw n hn'
    have hmin : IntKind.u64.min = 0 := by kernel_rfl
    have hmax : IntKind.u64.max = 18446744073709551615 := by kernel_rfl
    simp [Lit.wf, hmin, hmax] at this
    omega

theorem reach_guard (k : Int) (a : Option Addr) (len cap : Nat) (w : World) (hk : (Lit.int .i64 k).wf = true) (hg : 4096 < len ∨ k < 0 ∨ 16 < k) :
    Calls Try.prog 3 #[.int .i64 k, .slice a len cap] w fun e w' => e = .returned (.bool true) ∧ Below w.heap.size w w' := by
  by_cases h20 : len ≤ 1048576
  · have H5 : Hid (Calls Try.prog 5 #[.int .i64 k, .slice a len cap] w fun e w' => e = .returned (.bool true) ∧ w = w') := bytes_yes k a len cap w h20
    by_cases hl : 4096 < len
    · have hl' : (4096 : Int) < len := by omega
      clear hg
      go_enter Try.func3, Try.ntmps3
      go_wp2_with fail
      refine H5.out.mono ?_
      rintro e w' ⟨rfl, rfl⟩
      go_wp2
      go_ret
      exact ⟨rfl, Below.refl _ _⟩
    · have hl' : ¬ (4096 : Int) < len := by omega
      by_cases h0 : k < 0
      · clear hg
        go_enter Try.func3, Try.ntmps3
        go_wp2_with fail
        refine H5.out.mono ?_
        rintro e w' ⟨rfl, rfl⟩
        go_wp2
        go_ret
        exact ⟨rfl, Below.refl _ _⟩
      · have h16 : 16 < k := by omega
        clear hg
        go_enter Try.func3, Try.ntmps3
        go_wp2_with fail
        refine H5.out.mono ?_
        rintro e w' ⟨rfl, rfl⟩
        go_wp2
        go_ret
        exact ⟨rfl, Below.refl _ _⟩
  · have H5 : Hid (Calls Try.prog 5 #[.int .i64 k, .slice a len cap] w fun e w' => e = .returned (.bool false) ∧ w = w') := bytes_no k a len cap w (by omega)
    clear hg
    go_enter Try.func3, Try.ntmps3
    go_wp2_with fail
    refine H5.out.mono ?_
    rintro e w' ⟨rfl, rfl⟩
    go_wp2
    go_ret
    exact ⟨rfl, Below.refl _ _⟩

theorem reach_long (e : Nat) (a : Option Addr) (len cap size : Nat) (w : World) (he : e ≤ 16) (hsz : 2 ^ e = size) (hl : len ≤ 4096) (hg : size < len) :
    Calls Try.prog 3 #[.int .i64 (e : Int), .slice a len cap] w fun e w' => e = .returned (.bool true) ∧ Below w.heap.size w w' := by
  have H5 : Hid (Calls Try.prog 5 #[.int .i64 (e : Int), .slice a len cap] w fun e w' => e = .returned (.bool true) ∧ w = w') := bytes_yes e a len cap w (by omega)
  have hl' : ¬ (4096 : Int) < len := by omega
  have h0 : ¬ (e : Int) < 0 := by omega
  have h16 : ¬ (16 : Int) < e := by omega
  have hg' : (size : Int) < len := by omega
  have hw := shl_size e he size hsz
  clear hsz
  go_enter Try.func3, Try.ntmps3
  go_wp2_with fail
  refine H5.out.mono ?_
  rintro e w' ⟨rfl, rfl⟩
  go_wp2
  go_ret
  exact ⟨rfl, Below.refl _ _⟩

/-- What stands through the loops of the law. -/
def St (base : Nat) (w : World) (X C S nc size : Nat) (ch : Nat → Option Nat) (cs : Nat → Nat → Int) (used : Nat) (a : Option Addr) (zs : List Int) (wr : World) : Prop :=
  Ix base wr X C S nc size ch cs used ∧ Below w.heap.size w wr ∧ Row .u64 wr a zs

theorem St.drew {base : Nat} {w : World} {X C S nc size : Nat} {ch : Nat → Option Nat} {cs : Nat → Nat → Int} {used : Nat} {a : Option Addr} {zs : List Int} {wr : World} (h : St base w X C S nc size ch cs used a zs wr) (m : Nat) : St base w X C S nc size ch cs used a zs (wr.drewN m) :=
  ⟨h.1.below (below_drewN (Below.refl _ _) m), below_drewN h.2.1 m, h.2.2.below (below_drewN (Below.refl _ _) m)⟩

theorem St.at {base : Nat} {w : World} {X C S nc size : Nat} {ch : Nat → Option Nat} {cs : Nat → Nat → Int} {used : Nat} {a : Option Addr} {zs : List Int} {wr : World} (h : St base w X C S nc size ch cs used a zs wr) (i : Nat) (hq : i / 4096 < nc) (hr : i % 4096 < S) (hnc : nc ≤ 16) (hi : i < 65536) (hy : cs i 1 ≠ 0) :
    Calls Try.prog 8 #[.pointer (some ⟨X, 0, none⟩), .int .i64 (i : Int)] wr fun e w' => e = .returned (.tuple #[.bool true, .int .u64 (cs i 0), .int .i64 (cs i 1), .int .i64 (cs i 2), .int .i64 (cs i 3)]) ∧ Hid (St base w X C S nc size ch cs used a zs w') := by
  refine (at_any base wr X C S nc size ch cs used h.1 i _ rfl hq hr hnc hi).mono ?_
  rintro e w' ⟨made, ⟨he, m, hw⟩, hm⟩
  cases made with
  | false => exact absurd (hm rfl) hy
  | true => subst hw; exact ⟨he, h.drew m⟩

/-- A slot that is shown and holds nothing, or is not made. -/
theorem St.atFree {base : Nat} {w : World} {X C S nc size : Nat} {ch : Nat → Option Nat} {cs : Nat → Nat → Int} {used : Nat} {a : Option Addr} {zs : List Int} {wr : World} (h : St base w X C S nc size ch cs used a zs wr) (i : Nat) (hq : i / 4096 < nc) (hr : i % 4096 < S) (hnc : nc ≤ 16) (hi : i < 65536) (hy : cs i 1 = 0) :
    ∃ made : Bool, Calls Try.prog 8 #[.pointer (some ⟨X, 0, none⟩), .int .i64 (i : Int)] wr fun e w' => e = .returned (.tuple #[.bool made, .int .u64 (cs i 0), .int .i64 0, .int .i64 (cs i 2), .int .i64 (cs i 3)]) ∧ Hid (St base w X C S nc size ch cs used a zs w') := by
  cases hB : ch (i / 4096) with
  | some B =>
    refine ⟨true, (at_made base wr X C S nc size ch cs used h.1 i hq hr hnc hi B hB).mono ?_⟩
    rintro e w' ⟨he, m, hw⟩
    subst hw; rw [hy] at he; exact ⟨he, h.drew m⟩
  | none =>
    refine ⟨false, (at_none base wr X C S nc size ch cs used h.1 i hq hnc hi hB).mono ?_⟩
    have hf := h.1.free (i / 4096) hq hB (i % 4096) hr
    rw [show 4096 * (i / 4096) + i % 4096 = i by omega] at hf
    rintro e w' ⟨he, m, hw⟩
    subst hw; rw [hf 0, hf 2, hf 3]; exact ⟨he, h.drew m⟩

set_option maxHeartbeats 1000000 in
set_option maxRecDepth 100000 in
theorem reach_main (e : Nat) (a : Option Addr) (len cap size : Nat) (z : List Int) (w : World) (h : InRow .u64 w a len cap z) (he : e ≤ 16) (hsz : 2 ^ e = size) (hl : len ≤ 4096) (hg : len ≤ size) :
    Calls Try.prog 3 #[.int .i64 (e : Int), .slice a len cap] w fun e w' => e = .returned (.bool true) ∧ Below w.heap.size w w' := by
  have H5 : Hid (Calls Try.prog 5 #[.int .i64 (e : Int), .slice a len cap] w fun e w' => e = .returned (.bool true) ∧ w = w') := bytes_yes e a len cap w (by omega)
  have H6 : Hid (Calls Try.prog 6 #[.slice a len cap] w fun e w' => ∃ a', e = .returned (.slice a' len len) ∧ Row .u64 w' a' (z.take len) ∧ Below w.heap.size w w') := copy_any a len cap z w h (by omega)
  have hl' : ¬ (4096 : Int) < len := by omega
  have h0 : ¬ (e : Int) < 0 := by omega
  have h16 : ¬ (16 : Int) < e := by omega
  have hg' : ¬ (size : Int) < len := by omega
  have hw := shl_size e he size hsz
  have hsb : size ≤ 65536 := by
    have h1 : 2 ^ e ≤ 2 ^ 16 := Nat.pow_le_pow_right (by omega) he
    have h2 : (2 : Nat) ^ 16 = 65536 := rfl
    omega
  have hpos : 0 < size := by rw [← hsz]; exact Nat.two_pow_pos e
  have hlen := h.row.2
  obtain ⟨zs, hzs⟩ : ∃ zs, z.take len = zs := ⟨_, rfl⟩
  obtain ⟨hs, hhs⟩ : ∃ hs, zs.map Int.toNat = hs := ⟨_, rfl⟩
  have HV : Hid (∀ j, j < len → zs.getD j 0 = ((hs.getD j 0 : Nat) : Int) ∧ hs.getD j 0 < 18446744073709551616) := by
    intro j hj
    rw [hzs] at hlen
    have hwf := h.wf zs hzs (zs.getD j 0) (by simp [List.getD, hlen, hj])
    subst hhs
    simp [List.getD, hlen, hj] at hwf ⊢
    omega
  rw [hzs] at H6 hlen
  have HL : Hid (zs.length = len) := hlen
  have HZ : Hid (2 ^ e = size) := hsz
  clear h hzs hhs hlen hsz
  go_enter Try.func3, Try.ntmps3
  go_wp2_with fail
  refine H5.out.mono ?_
  rintro e w' ⟨rfl, rfl⟩
  go_wp2_with fail
  refine H6.out.mono ?_
  rintro e' W0 ⟨a', rfl, hR, hB⟩
  have H7 : Hid (Calls Try.prog 7 #[.int .i64 (size : Int), .slice a' len len] W0 (FillPost W0 (min size 4096) ((size + 4095) / 4096) size hs len)) := fill_any W0 a' len len size _ _ e zs hs HL.out HV.out hR hg he HZ.out rfl rfl
  have HR : Hid (Row .u64 W0 a' zs) := hR
  have HB : Hid (Below w.heap.size w W0) := hB
  clear hR hB
  go_wp2_with fail
  refine H7.out.mono ?_
  rintro e' W1 ⟨X, C, rfl, ch, cs, hI, hF, hB⟩
  have HN : Hid (∀ i, i < size → i / 4096 < (size + 4095) / 4096 ∧ i % 4096 < min size 4096) := fun i hi => by omega
  have hn16 : (size + 4095) / 4096 ≤ 16 := by omega
  obtain ⟨nc, hnc⟩ : ∃ nc, (size + 4095) / 4096 = nc := ⟨_, rfl⟩
  obtain ⟨S, hS⟩ : ∃ S, min size 4096 = S := ⟨_, rfl⟩
  rw [hnc] at hI hn16 HN
  rw [hS] at hI HN
  obtain ⟨base, hbase⟩ : ∃ base, W0.heap.size = base := ⟨_, rfl⟩
  have hRow := HR.out.below hB
  have hBel : Below w.heap.size w W1 := HB.out.trans (hB.mono HB.out.size)
  rw [hbase] at hI
  have HX : Hid (St base w X C S nc size ch cs len a' zs W1) := show St _ _ _ _ _ _ _ _ _ _ _ _ _ from ⟨hI, hBel, hRow⟩
  have HF : Hid (Filled hs size cs len) := hF
  clear hI hF hB hnc hS hbase hRow hBel H7 H6 H5 HR HB
  go_wp2
  go_loopg [8] len (fun g i wr => ∃ j : Nat, j + g = len ∧ i = .int .i64 (j : Int) ∧ Hid (St base w X C S nc size ch cs len a' zs wr))
  case atStart => exact ⟨0, by omega, rfl, HX⟩
  case round =>
    obtain ⟨j, hjg, rfl, HJ⟩ := hrel
    by_cases hlt : j < len
    · obtain ⟨b, off, hx, hck⟩ : ∃ b off, a' = some ⟨b, off, none⟩ ∧ wr.cell? ⟨b, off + j, none⟩ = some (.int .u64 (zs.getD j 0)) := by
        rcases HJ.out.2.2 with h | ⟨b, off, h1, h2⟩
        · have := HL.out; rw [h] at this; simp at this; omega
        · exact ⟨b, off, h1, h2 j (by rw [HL.out]; exact hlt)⟩
      subst hx
      obtain ⟨hv1, hv2⟩ := HV.out j hlt
      rw [hv1] at hck
      obtain ⟨T, hT, hT1, hT2, hT3⟩ := HF.out.2 j hlt
      obtain ⟨hh, hhe⟩ : ∃ hh, hs.getD j 0 = hh := ⟨_, rfl⟩
      rw [hhe] at hck hv2 hT1 hT2 hT3
      obtain ⟨home, hhome⟩ : ∃ home, hh % size = home := ⟨_, rfl⟩
      rw [hhome] at hT1 hT2 hT3
      have hhl : home < size := by rw [← hhome]; exact Nat.mod_lt _ hpos
      have hm1 : ((hh : Int) % (size : Int)) = (home : Int) := by omega
      have HT1 : Hid (cs ((home + T) % size) 1 = (j : Int) + 1) := hT1
      have HT2 : Hid (cs ((home + T) % size) 2 = (j : Int)) := hT2
      have HT3 : Hid (∀ t, t < T → cs ((home + t) % size) 1 ≠ 0) := hT3
      clear hT1 hT2 hT3 hhe hv1 hhome
      obtain ⟨wo, rfl⟩ : ∃ wo : World, wo = wr := ⟨_, rfl⟩
      go_wp2
      clear hck hm1 HX
      go_loopg [9, 10, 11] T (fun g p f st wi => ∃ s q : Nat, s + g = T ∧ p = .int .i64 (q : Int) ∧ f = .bool false ∧ st = .int .i64 (s : Int) ∧ q < size ∧ Hid ((home + s) % size = q) ∧ Hid (St base w X C S nc size ch cs len (some ⟨b, off, none⟩) zs wi))
      case atStart => exact ⟨0, home, by omega, rfl, rfl, rfl, hhl, Nat.mod_eq_of_lt hhl, HJ⟩
      case round =>
        obtain ⟨s, q, hsg, rfl, rfl, rfl, hql, HQ, HI⟩ := hrel
        have hne : cs q 1 ≠ 0 := by
          by_cases hsT : s < T
          · have := HT3.out s hsT; rw [HQ.out] at this; exact this
          · obtain rfl : s = T := by omega
            have := HT1.out; rw [HQ.out] at this; omega
        have H8 := HI.out.at q (HN.out q hql).1 (HN.out q hql).2 hn16 (by omega) hne
        obtain ⟨y0, e0⟩ : ∃ y, cs q 0 = y := ⟨_, rfl⟩
        obtain ⟨y1, e1⟩ : ∃ y, cs q 1 = y := ⟨_, rfl⟩
        obtain ⟨y2, e2⟩ : ∃ y, cs q 2 = y := ⟨_, rfl⟩
        obtain ⟨y3, e3⟩ : ∃ y, cs q 3 = y := ⟨_, rfl⟩
        rw [e0, e1, e2, e3] at H8
        rw [e1] at hne
        have hy0 : (y1 == 0) = false := beq_eq_false_iff_ne.2 hne
        have hsl : (s : Int) < (size : Int) := by omega
        have H8' : Hid (Calls Try.prog 8 #[.pointer (some ⟨X, 0, none⟩), .int .i64 (q : Int)] wr fun e w' => e = .returned (.tuple #[.bool true, .int .u64 y0, .int .i64 y1, .int .i64 y2, .int .i64 y3]) ∧ Hid (St base w X C S nc size ch cs len (some ⟨b, off, none⟩) zs w')) := H8
        have HE : Hid (s = T → y1 = (j : Int) + 1 ∧ y2 = (j : Int)) := by
          rintro rfl
          have h1 := HT1.out; have h2 := HT2.out
          rw [HQ.out] at h1 h2
          omega
        have hmn := mask_next q (by omega) e he size HZ.out
        obtain ⟨q', hq'⟩ : ∃ q', (q + 1) % size = q' := ⟨_, rfl⟩
        rw [hq'] at hmn
        have HQ' : Hid ((q + 1) % size = q') := hq'
        have hql' : q' < size := by rw [← hq']; exact Nat.mod_lt _ hpos
        clear H8 e0 e1 e2 e3 hq'
        by_cases hfd : y1 = (j : Int) + 1 ∧ y2 = (j : Int)
        · obtain ⟨rfl, rfl⟩ := hfd
          go_wp2_with fail
          refine H8'.out.mono ?_
          rintro e' w2 ⟨rfl, HI2⟩
          go_wp2
          go_roundg (len - (j + 1))
          case measure => omega
          case rel => exact ⟨j + 1, by omega, by go_num, HI2⟩
        · have hsT : s < T := by
            have := HE.out
            by_cases e : s = T
            · exact absurd (this e) hfd
            · omega
          by_cases h1 : y1 = (j : Int) + 1
          · have h2 : (y2 == (j : Int)) = false := beq_eq_false_iff_ne.2 fun h => hfd ⟨h1, h⟩
            subst h1
            clear hfd
            go_wp2_with fail
            refine H8'.out.mono ?_
            rintro e' w2 ⟨rfl, HI2⟩
            go_wp2
            go_roundg (T - (s + 1))
            case measure => omega
            case rel => exact ⟨s + 1, q', by omega, by go_num, rfl, by go_num, hql', show _ = _ from by rw [← HQ'.out, ← HQ.out, next_mod], HI2⟩
          · have h2 : (y1 == (j : Int) + 1) = false := beq_eq_false_iff_ne.2 h1
            clear hfd
            go_wp2_with fail
            refine H8'.out.mono ?_
            rintro e' w2 ⟨rfl, HI2⟩
            go_wp2
            go_roundg (T - (s + 1))
            case measure => omega
            case rel => exact ⟨s + 1, q', by omega, by go_num, rfl, by go_num, hql', show _ = _ from by rw [← HQ'.out, ← HQ.out, next_mod], HI2⟩
    · obtain rfl : j = len := by omega
      obtain ⟨wo, rfl⟩ : ∃ wo : World, wo = wr := ⟨_, rfl⟩
      clear HX
      go_wp2
      go_loopg [17, 18] size (fun g oc ii wi => ∃ i c : Nat, i + g = size ∧ oc = .int .i64 (c : Int) ∧ ii = .int .i64 (i : Int) ∧ c ≤ i ∧ Hid (cnt cs i = c) ∧ Hid (St base w X C S nc size ch cs j a' zs wi))
      case atStart => exact ⟨0, 0, by omega, rfl, rfl, by omega, show cnt cs 0 = 0 from rfl, HJ⟩
      case round =>
        obtain ⟨i, c, hig, rfl, rfl, hci, HC, HI⟩ := hrel
        by_cases hil : i < size
        · have hil' : (i : Int) < (size : Int) := by omega
          by_cases hne : cs i 1 = 0
          · obtain ⟨made, H8⟩ := HI.out.atFree i (HN.out i hil).1 (HN.out i hil).2 hn16 (by omega) hne
            have HC' : Hid (cnt cs (i + 1) = c) := show _ = _ from by simp only [cnt, if_pos hne, HC.out]; omega
            obtain ⟨y0, e0⟩ : ∃ y, cs i 0 = y := ⟨_, rfl⟩
            obtain ⟨y2, e2⟩ : ∃ y, cs i 2 = y := ⟨_, rfl⟩
            obtain ⟨y3, e3⟩ : ∃ y, cs i 3 = y := ⟨_, rfl⟩
            rw [e0, e2, e3] at H8
            have H8' : Hid (Calls Try.prog 8 #[.pointer (some ⟨X, 0, none⟩), .int .i64 (i : Int)] wr fun e w' => e = .returned (.tuple #[.bool made, .int .u64 y0, .int .i64 0, .int .i64 y2, .int .i64 y3]) ∧ Hid (St base w X C S nc size ch cs j a' zs w')) := H8
            clear H8 e0 e2 e3 hne
            cases made with
            | true =>
              go_wp2_with fail
              refine H8'.out.mono ?_
              rintro e' w2 ⟨rfl, HI2⟩
              go_wp2
              go_roundg (size - (i + 1))
              case measure => omega
              case rel => exact ⟨i + 1, c, by omega, rfl, by go_num, by omega, HC', HI2⟩
            | false =>
              go_wp2_with fail
              refine H8'.out.mono ?_
              rintro e' w2 ⟨rfl, HI2⟩
              go_wp2
              go_roundg (size - (i + 1))
              case measure => omega
              case rel => exact ⟨i + 1, c, by omega, rfl, by go_num, by omega, HC', HI2⟩
          · have H8 := HI.out.at i (HN.out i hil).1 (HN.out i hil).2 hn16 (by omega) hne
            have HC' : Hid (cnt cs (i + 1) = c + 1) := show _ = _ from by simp only [cnt, if_neg hne, HC.out]
            obtain ⟨y0, e0⟩ : ∃ y, cs i 0 = y := ⟨_, rfl⟩
            obtain ⟨y1, e1⟩ : ∃ y, cs i 1 = y := ⟨_, rfl⟩
            obtain ⟨y2, e2⟩ : ∃ y, cs i 2 = y := ⟨_, rfl⟩
            obtain ⟨y3, e3⟩ : ∃ y, cs i 3 = y := ⟨_, rfl⟩
            rw [e0, e1, e2, e3] at H8
            rw [e1] at hne
            have hy0 : (y1 == 0) = false := beq_eq_false_iff_ne.2 hne
            have H8' : Hid (Calls Try.prog 8 #[.pointer (some ⟨X, 0, none⟩), .int .i64 (i : Int)] wr fun e w' => e = .returned (.tuple #[.bool true, .int .u64 y0, .int .i64 y1, .int .i64 y2, .int .i64 y3]) ∧ Hid (St base w X C S nc size ch cs j a' zs w')) := H8
            clear H8 e0 e1 e2 e3
            go_wp2_with fail
            refine H8'.out.mono ?_
            rintro e' w2 ⟨rfl, HI2⟩
            go_wp2
            go_roundg (size - (i + 1))
            case measure => omega
            case rel => exact ⟨i + 1, c + 1, by omega, by go_num, by go_num, by omega, HC', HI2⟩
        · obtain rfl : i = size := by omega
          have hcj : c = j := by rw [← HC.out]; exact HF.out.1
          have H9 : Hid (Calls Try.prog 9 #[.pointer (some ⟨X, 0, none⟩)] wr fun e w' => e = .returned (.int .i64 (j : Int)) ∧ wr = w') := used_any base wr X C S nc i ch cs j HI.out.1
          subst hcj
          go_wp2_with fail
          refine H9.out.mono ?_
          rintro e' w2 ⟨rfl, rfl⟩
          go_wp2
          go_ret
          exact ⟨rfl, HI.out.2.1⟩

theorem reach_any (k : Int) (a : Option Addr) (len cap : Nat) (z : List Int) (w : World) (hk : (Lit.int .i64 k).wf = true) (h : InRow .u64 w a len cap z) :
    Calls Try.prog 3 #[.int .i64 k, .slice a len cap] w fun e w' => e = .returned (.bool true) ∧ Below w.heap.size w w' := by
  by_cases hg : 4096 < len ∨ k < 0 ∨ 16 < k
  · exact reach_guard k a len cap w hk hg
  · obtain ⟨e, rfl⟩ : ∃ e : Nat, k = (e : Int) := ⟨k.toNat, by omega⟩
    by_cases hl : 2 ^ e < len
    · exact reach_long e a len cap (2 ^ e) w (by omega) rfl (by omega) hl
    · exact reach_main e a len cap (2 ^ e) z w h (by omega) rfl (by omega) (by omega)

end Go.Proofs.Qxb6600474a
