/- The walk of FnPadOfReachesColumnEnd. -/
import Derived.Test.Qxb6605303aSpread
namespace Go.Proofs.Qxb6605303a
open Go.RowKit
set_option linter.unusedVariables false

theorem sumW_split (zs : List Int) (c : Nat) : ∀ s : Nat, sumW zs 0 (c + s) = sumW zs 0 c + sumW zs c s := by
  intro s
  induction s with
  | zero => simp [sumW]
  | succ s ih => rw [← Nat.add_assoc]; simp only [sumW, ih, Nat.zero_add]; omega

/-- padOf of a cell in one column. -/
theorem padOf_one (a : Option Addr) (n cap : Nat) (zs : List Int) (hn : zs.length = n) (wd ci : Int) (c : Nat) (hc : ci = (c : Int)) (w : World) (h : Row .i64 w a zs) (hz : ∀ i, 0 ≤ zs.getD i 0 ∧ zs.getD i 0 ≤ 1048576) (hl : n ≤ 65536)
    (hw0 : 0 ≤ wd) (hw1 : wd ≤ 2147483647) (hcn : c < n) (hcs : c ≤ 255) :
    Calls Try.prog 17 #[.slice a n cap, .int .i32 wd, .int .u8 ci, .int .u8 0] w fun e w' => ∃ p : Int, e = .returned (.int .i64 p) ∧ Hid (p = zs.getD c 0 - wd) ∧ Below w.heap.size w w' := by
  subst hc
  rcases h with h | ⟨b, off, rfl, hcell⟩
  · subst h; simp at hn; omega
  have hck := hcell c (by omega)
  have hlt : b < w.heap.size := World.block_lt_of_cell? _ _ hck
  obtain ⟨z, hzd⟩ : ∃ z, zs.getD c 0 = z := ⟨_, rfl⟩
  have bz := hz c
  rw [hzd] at hck bz
  have HZ : Hid (zs.getD c 0 = z) := hzd
  have hci : (c : Int) < (n : Int) := by omega
  clear hcell hz hn hzd
  go_enter Try.func17, Try.ntmps17
  go_wp2
  go_quiet (fail)
  go_wp2
  go_ret
  exact ⟨_, rfl, show _ = _ by rw [HZ.out], below_drewN (((Below.refl _ _).alloc (Nat.le_refl _) _).alloc (by simp) _) _⟩

/-- zzColumnStart. -/
theorem colStart (a : Option Addr) (n cap : Nat) (zs : List Int) (hn : zs.length = n) (ji : Int) (j : Nat) (hj : ji = (j : Int)) (w : World) (h : Row .i64 w a zs) (hz : ∀ i, 0 ≤ zs.getD i 0 ∧ zs.getD i 0 ≤ 1048576) (hl : n ≤ 65536) (hj2 : j ≤ 256) :
    Calls Try.prog 18 #[.slice a n cap, .int .i64 ji] w fun e w' => ∃ p : Int, e = .returned (.int .i64 p) ∧ Hid (p = sumW zs 0 j + 2 * (j : Int)) ∧ w = w' := by
  subst hj
  have HR : Hid (Row .i64 w a zs) := h
  have HL : Hid (zs.length = n) := hn
  have HZ : Hid (∀ i, 0 ≤ zs.getD i 0 ∧ zs.getD i 0 ≤ 1048576) := hz
  clear h hn hz
  go_enter Try.func18, Try.ntmps18
  go_wp2
  go_loop [5, 6] (fun t i => ∃ k : Nat, k ≤ j ∧ i = .int .i64 k ∧ t = .int .i64 (sumW zs 0 k + 2 * (k : Int))) (fun _ i => j - (intOf i).toNat)
  case atStart => exact ⟨0, Nat.zero_le _, rfl, rfl⟩
  case round =>
    obtain ⟨k, hk, rfl, rfl⟩ := hrel
    have hbd := sumW_bd zs 0 HZ.out k
    by_cases hlt : k < j
    · by_cases hin : k < n
      · obtain ⟨b, off, rfl, hck⟩ : ∃ b off, a = some ⟨b, off, none⟩ ∧ w.cell? ⟨b, off + k, none⟩ = some (.int .i64 (zs.getD k 0)) := by
          rcases HR.out with h | ⟨b, off, h1, h2⟩
          · have := HL.out; rw [h] at this; simp at this; omega
          · exact ⟨b, off, h1, h2 k (by rw [HL.out]; exact hin)⟩
        obtain ⟨z, hzd⟩ : ∃ z, zs.getD k 0 = z := ⟨_, rfl⟩
        have bz := HZ.out k
        rw [hzd] at hck bz
        have HK : Hid (zs.getD k 0 = z) := hzd
        clear hzd
        go_wp2
        go_round
        case rel => exact ⟨k + 1, by omega, by go_num, by rw [sumW, Nat.zero_add, HK.out]; go_num⟩
        case measure => simp [intOf]; omega
      · have e0 : zs.getD k 0 = 0 := by rw [List.getD, List.getElem?_eq_none (by rw [HL.out]; omega)]; rfl
        have HK : Hid (zs.getD k 0 = 0) := e0
        clear e0
        go_wp2
        go_round
        case rel => exact ⟨k + 1, by omega, by go_num, by rw [sumW, Nat.zero_add, HK.out]; go_num⟩
        case measure => simp [intOf]; omega
    · obtain rfl : k = j := by omega
      go_wp2
      go_ret
      exact ⟨_, rfl, rfl, rfl⟩

set_option maxRecDepth 100000 in
theorem column_walk (a0 : Option Addr) (len0 cap0 : Nat) (z0 : List Int) (a1 : Int) (a2 : Int) (a3 : Int) (w : World) (w0 : InRow .i64 w a0 len0 cap0 z0) (w1 : (Lit.int .i32 a1).wf = true) (w2 : (Lit.int .u8 a2).wf = true) (w3 : (Lit.int .u8 a3).wf = true) :
    Calls Try.prog 5 #[.slice a0 len0 cap0, .int .i32 a1, .int .u8 a2, .int .u8 a3] w fun e w' => e = .returned (.bool true) ∧ Below w.heap.size w w' := by
  have b1 := bounds_i32 w1
  have b2 := bounds_u8 w2
  have b3 := bounds_u8 w3
  by_cases hbig : (1048576 : Int) < len0
  · clear w0 w1 w2 w3
    go_enter Try.func5, Try.ntmps5
    go_wp2
    go_ret
    exact ⟨rfl, Below.refl _ _⟩
  by_cases hbig2 : (65536 : Int) < len0
  · clear w0 w1 w2 w3
    go_enter Try.func5, Try.ntmps5
    go_wp2
    go_ret
    exact ⟨rfl, Below.refl _ _⟩
  obtain ⟨c, rfl⟩ := Int.eq_ofNat_of_zero_le b2.1
  obtain ⟨s, rfl⟩ := Int.eq_ofNat_of_zero_le b3.1
  have HW : Hid (InRow .i64 w a0 len0 cap0 z0) := w0
  obtain ⟨hrow, hlen⟩ := w0.row
  obtain ⟨zs, hzs⟩ : ∃ zs, z0.take len0 = zs := ⟨_, rfl⟩
  rw [hzs] at hrow hlen
  have HZ : Hid (z0.take len0 = zs) := hzs
  have HR : Hid (Row .i64 w a0 zs) := hrow
  have HL : Hid (zs.length = len0) := hlen
  clear w0 w1 w2 w3 hzs hrow hlen
  go_enter Try.func5, Try.ntmps5
  go_wp2
  go_loop [9] (fun i => ∃ k : Nat, k ≤ len0 ∧ i = .int .i64 k ∧ Hid (∀ j, j < k → 0 ≤ zs.getD j 0 ∧ zs.getD j 0 ≤ 1048576)) (fun i => len0 - (intOf i).toNat)
  case atStart => exact ⟨0, Nat.zero_le _, rfl, fun j hj => absurd hj (by omega)⟩
  case round =>
    obtain ⟨k, hk, rfl, HB⟩ := hrel
    by_cases hlt : k < len0
    · obtain ⟨b, off, rfl, hck⟩ : ∃ b off, a0 = some ⟨b, off, none⟩ ∧ w.cell? ⟨b, off + k, none⟩ = some (.int .i64 (zs.getD k 0)) := by
        rcases HR.out with h | ⟨b, off, h1, h2⟩
        · have := HL.out; rw [h] at this; simp at this; omega
        · exact ⟨b, off, h1, h2 k (by rw [HL.out]; exact hlt)⟩
      obtain ⟨z, hz⟩ : ∃ z, zs.getD k 0 = z := ⟨_, rfl⟩
      rw [hz] at hck
      have HK : Hid (zs.getD k 0 = z) := hz
      clear hz
      by_cases h1 : z < 0
      · go_wp2
        go_ret
        exact ⟨rfl, Below.refl _ _⟩
      by_cases h2 : 1048576 < z
      · go_wp2
        go_ret
        exact ⟨rfl, Below.refl _ _⟩
      go_wp2
      go_round
      case rel =>
        refine ⟨k + 1, by omega, by go_num, fun j hj => ?_⟩
        by_cases hjk : j < k
        · exact HB.out j hjk
        · obtain rfl : j = k := by omega
          rw [HK.out]; omega
      case measure => simp [intOf]; omega
    · obtain rfl : k = len0 := by omega
      by_cases t1 : a1 < 0
      · go_wp2
        go_ret
        exact ⟨rfl, Below.refl _ _⟩
      by_cases t3 : 255 < c + s
      · go_wp2
        go_ret
        exact ⟨rfl, Below.refl _ _⟩
      have HZZ : Hid (∀ i, 0 ≤ zs.getD i 0 ∧ zs.getD i 0 ≤ 1048576) := getD_all zs k HL.out HB.out
      by_cases t2 : s = 0
      · subst t2
        have hs0 : (((0 : Nat) : Int) == 0) = true := rfl
        by_cases t4 : c < k
        · have hg : decide ((k : Int) ≤ (c : Int)) = false := by simp; omega
          have hck : (c : Int) < k := by omega
          go_wp2_with fail
          refine (cloneInts_any a0 k cap0 z0 w HW.out (by omega)).mono ?_
          rintro e W1 ⟨a', rfl, hown, hb1⟩
          rw [HZ.out] at hown
          have HR1 : Hid (Row .i64 W1 a' zs) := (ownsRow_row hown).1
          clear hown HR HW HB
          go_wp2_with fail
          refine (padOf_one a' k k zs HL.out a1 _ c rfl _ HR1.out HZZ.out (by omega) (by omega) (by omega) (by omega) (by omega)).mono ?_
          rintro e W2 ⟨p0, rfl, hp0, hb2⟩
          have HR2 : Hid (Row .i64 W2 a' zs) := HR1.out.below hb2
          have hbel : Below w.heap.size w W2 := hb1.trans (hb2.mono hb1.size)
          have s1 := sumW_bd zs 0 HZZ.out (c + 1)
          have s2 := sumW_bd zs 0 HZZ.out c
          go_wp2_with fail
          refine (colStart a' k k zs HL.out _ (c + 1) (by omega) _ HR2.out HZZ.out (by omega) (by omega)).mono ?_
          rintro e W3 ⟨p1, rfl, hp1, rfl⟩
          have b1' : 0 ≤ p1 ∧ p1 ≤ 300000000 := by have := hp1.out; omega
          go_wp2_with fail
          refine (colStart a' k k zs HL.out _ c (by omega) _ HR2.out HZZ.out (by omega) (by omega)).mono ?_
          rintro e W3 ⟨p2, rfl, hp2, rfl⟩
          have b2' : 0 ≤ p2 ∧ p2 ≤ 300000000 := by have := hp2.out; omega
          have e1 : p0 = p1 - 2 - p2 - a1 := by
            have h0 := hp0.out; have h1 := hp1.out; have h2 := hp2.out
            simp only [sumW, Nat.zero_add] at h1
            omega
          subst e1
          clear hp0 hp1 hp2 s1 s2 HZZ HR1 HR2 hb1 hb2
          go_wp2
          go_ret
          exact ⟨rfl, hbel⟩
        · have hg : decide ((k : Int) ≤ (c : Int)) = true := by simp; omega
          have hg2 : (k : Int) ≤ c := by omega
          go_wp2
          go_ret
          exact ⟨rfl, Below.refl _ _⟩
      · have hs0 : ((s : Int) == 0) = false := by simp; omega
        have hs1 : (0 : Int) < s := by omega
        go_wp2_with fail
        refine (cloneInts_any a0 k cap0 z0 w HW.out (by omega)).mono ?_
        rintro e W1 ⟨a', rfl, hown, hb1⟩
        rw [HZ.out] at hown
        have HR1 : Hid (Row .i64 W1 a' zs) := (ownsRow_row hown).1
        clear hown HR HW HB
        go_wp2_with fail
        refine (padOf_spread' a' k k zs HL.out a1 _ _ c s rfl rfl _ HR1.out HZZ.out (by omega) (by omega) (by omega) (by omega) (by omega)).mono ?_
        rintro e W2 ⟨p0, rfl, hp0, hb2⟩
        have HR2 : Hid (Row .i64 W2 a' zs) := HR1.out.below hb2
        have hbel : Below w.heap.size w W2 := hb1.trans (hb2.mono hb1.size)
        have s1 := sumW_bd zs 0 HZZ.out (c + s)
        have s2 := sumW_bd zs 0 HZZ.out c
        go_wp2_with fail
        refine (colStart a' k k zs HL.out _ (c + s) (by omega) _ HR2.out HZZ.out (by omega) (by omega)).mono ?_
        rintro e W3 ⟨p1, rfl, hp1, rfl⟩
        have b1' : 0 ≤ p1 ∧ p1 ≤ 300000000 := by have := hp1.out; omega
        go_wp2_with fail
        refine (colStart a' k k zs HL.out _ c (by omega) _ HR2.out HZZ.out (by omega) (by omega)).mono ?_
        rintro e W3 ⟨p2, rfl, hp2, rfl⟩
        have b2' : 0 ≤ p2 ∧ p2 ≤ 300000000 := by have := hp2.out; omega
        have e1 : p0 = max (p1 - 2 - p2 - a1) 0 := by
          have h0 := hp0.out; have h1 := hp1.out; have h2 := hp2.out
          rw [sumW_split] at h1
          omega
        have sh : (p1 - 2 - p2 - a1 < 0 ∧ p0 = 0) ∨ (¬ p1 - 2 - p2 - a1 < 0 ∧ p0 = p1 - 2 - p2 - a1) := by omega
        clear hp0 hp1 hp2 s1 s2 HZZ HR1 HR2 hb1 hb2 e1
        rcases sh with ⟨t5, rfl⟩ | ⟨t5, rfl⟩
        all_goals
          go_wp2
          go_ret
          exact ⟨rfl, hbel⟩

end Go.Proofs.Qxb6605303a
