/- The walk of FnPadOfSpreadRecurrence. -/
import Derived.Test.Qxb6605303aPad
import Derived.OpenShut
namespace Go.Proofs.Qxb6605303a
open Go.RowKit

theorem getD_all (zs : List Int) (n : Nat) (hn : zs.length = n) (h : ∀ j, j < n → 0 ≤ zs.getD j 0 ∧ zs.getD j 0 ≤ 1048576) : ∀ i, 0 ≤ zs.getD i 0 ∧ zs.getD i 0 ≤ 1048576 := by
  intro i
  by_cases hi : i < n
  · exact h i hi
  · rw [List.getD, List.getElem?_eq_none (by omega)]; simp

set_option maxRecDepth 100000 in
theorem spread_walk (a0 : Option Addr) (len0 cap0 : Nat) (z0 : List Int) (a1 : Int) (a2 : Int) (a3 : Int) (w : World) (w0 : InRow .i64 w a0 len0 cap0 z0) (w1 : (Lit.int .i32 a1).wf = true) (w2 : (Lit.int .u8 a2).wf = true) (w3 : (Lit.int .u8 a3).wf = true) :
    Calls Try.prog 6 #[.slice a0 len0 cap0, .int .i32 a1, .int .u8 a2, .int .u8 a3] w fun e w' => e = .returned (.bool true) ∧ Below w.heap.size w w' := by
  have b1 := bounds_i32 w1
  have b2 := bounds_u8 w2
  have b3 := bounds_u8 w3
  by_cases hbig : (1048576 : Int) < len0
  · clear w0 w1 w2 w3
    go_enter Try.func6, Try.ntmps6
    go_wp2
    go_ret
    exact ⟨rfl, Below.refl _ _⟩
  by_cases hbig2 : (65536 : Int) < len0
  · clear w0 w1 w2 w3
    go_enter Try.func6, Try.ntmps6
    go_wp2
    go_ret
    exact ⟨rfl, Below.refl _ _⟩
  obtain ⟨c, rfl⟩ := Int.eq_ofNat_of_zero_le b2.1
  obtain ⟨s, rfl⟩ := Int.eq_ofNat_of_zero_le b3.1
  have HW : Hid (InRow .i64 w a0 len0 cap0 z0) := w0
  obtain ⟨hrow, hlen⟩ := w0.row
  obtain ⟨zs, hzs⟩ : ∃ zs, z0.take len0 = zs := ⟨_, rfl⟩
  rw [hzs] at hrow hlen
  have HZ : Hid (z0.take len0 = zs) := hzs
  have HR : Hid (Row .i64 w a0 zs) := hrow
  have HL : Hid (zs.length = len0) := hlen
  clear w0 w1 w2 w3 hzs hrow hlen
  go_enter Try.func6, Try.ntmps6
  go_wp2
  go_loop [9] (fun i => ∃ k : Nat, k ≤ len0 ∧ i = .int .i64 k ∧ Hid (∀ j, j < k → 0 ≤ zs.getD j 0 ∧ zs.getD j 0 ≤ 1048576)) (fun i => len0 - (intOf i).toNat)
  case atStart => exact ⟨0, Nat.zero_le _, rfl, fun j hj => absurd hj (by omega)⟩
  case round =>
    obtain ⟨k, hk, rfl, HB⟩ := hrel
    by_cases hlt : k < len0
    · obtain ⟨b, off, rfl, hck⟩ : ∃ b off, a0 = some ⟨b, off, none⟩ ∧ w.cell? ⟨b, off + k, none⟩ = some (.int .i64 (zs.getD k 0)) := by
        rcases HR.out with h | ⟨b, off, h1, h2⟩
        · have := HL.out; rw [h] at this; simp at this; omega
        · exact ⟨b, off, h1, h2 k (by rw [HL.out]; exact hlt)⟩
      obtain ⟨z, hz⟩ : ∃ z, zs.getD k 0 = z := ⟨_, rfl⟩
      rw [hz] at hck
      have HK : Hid (zs.getD k 0 = z) := hz
      clear hz
      by_cases h1 : z < 0
      · go_wp2
        go_ret
        exact ⟨rfl, Below.refl _ _⟩
      by_cases h2 : 1048576 < z
      · go_wp2
        go_ret
        exact ⟨rfl, Below.refl _ _⟩
      go_wp2
      go_round
      case rel =>
        refine ⟨k + 1, by omega, by go_num, fun j hj => ?_⟩
        by_cases hjk : j < k
        · exact HB.out j hjk
        · obtain rfl : j = k := by omega
          rw [HK.out]; omega
      case measure => simp [intOf]; omega
    · obtain rfl : k = len0 := by omega
      by_cases t1 : a1 < 0
      · go_wp2
        go_ret
        exact ⟨rfl, Below.refl _ _⟩
      by_cases t2 : s = 0
      · subst t2
        go_wp2
        go_ret
        exact ⟨rfl, Below.refl _ _⟩
      by_cases t3 : 255 ≤ c + s
      · go_wp2
        go_ret
        exact ⟨rfl, Below.refl _ _⟩
      have hs0 : ((s : Int) == 0) = false := by simp; omega
      have HZZ : Hid (∀ i, 0 ≤ zs.getD i 0 ∧ zs.getD i 0 ≤ 1048576) := getD_all zs k HL.out HB.out
      go_wp2_with fail
      refine (cloneInts_any a0 k cap0 z0 w HW.out (by omega)).mono ?_
      rintro e W1 ⟨a', rfl, hown, hb1⟩
      rw [HZ.out] at hown
      have HR1 : Hid (Row .i64 W1 a' zs) := (ownsRow_row hown).1
      clear hown HR HW HB
      go_wp2_with fail
      refine (padOf_spread' a' k k zs HL.out 0 _ _ c s rfl rfl _ HR1.out HZZ.out (by omega) (by omega) (by omega) (by omega) (by omega)).mono ?_
      rintro e W2 ⟨p0, rfl, hp0, hb2⟩
      have HR2 : Hid (Row .i64 W2 a' zs) := HR1.out.below hb2
      go_wp2_with fail
      refine (padOf_spread' a' k k zs HL.out 0 _ _ c (s + 1) rfl (by omega) _ HR2.out HZZ.out (by omega) (by omega) (by omega) (by omega) (by omega)).mono ?_
      rintro e W3 ⟨p1, rfl, hp1, hb3⟩
      have HR3 : Hid (Row .i64 W3 a' zs) := HR2.out.below hb3
      go_wp2_with fail
      refine (padOf_spread' a' k k zs HL.out a1 _ _ c s rfl rfl _ HR3.out HZZ.out (by omega) (by omega) (by omega) (by omega) (by omega)).mono ?_
      rintro e W4 ⟨pw, rfl, hpw, hb4⟩
      have HR4 : Hid (Row .i64 W4 a' zs) := HR3.out.below hb4
      have hbel : Below w.heap.size w W4 := ((hb1.trans (hb2.mono hb1.size)).trans (hb3.mono (Nat.le_trans hb1.size hb2.size))).trans (hb4.mono (Nat.le_trans hb1.size (Nat.le_trans hb2.size hb3.size)))
      clear hb1 hb2 hb3 hb4 HR1 HR2 HR3
      obtain ⟨nx, hnx⟩ : ∃ nx, zs.getD (c + s) 0 = nx := ⟨_, rfl⟩
      obtain ⟨f, hf⟩ : ∃ f, zs.getD c 0 = f := ⟨_, rfl⟩
      have bnx := HZZ.out (c + s)
      have bf := HZZ.out c
      have bs := sumW_bd zs c HZZ.out s
      have e1 : p1 = p0 + nx + 2 := by
        have h0 := hp0.out; have h1 := hp1.out; simp only [sumW] at h1; omega
      have e0 : s = 1 → p0 = f := by
        intro h; have h0 := hp0.out; subst h; simp only [sumW] at h0; rw [Nat.add_zero, hf] at h0; omega
      have ew : pw = max (p0 - a1) 0 := by
        have h0 := hp0.out; have h1 := hpw.out; omega
      have p0b : 0 ≤ p0 ∧ p0 ≤ 300000000 := by
        have h0 := hp0.out; omega
      rw [hnx] at bnx
      rw [hf] at bf
      have cells : c < k → ∃ b off, a' = some ⟨b, off, none⟩ ∧ ∀ i, i < k → W4.cell? ⟨b, off + i, none⟩ = some (.int .i64 (zs.getD i 0)) := by
        intro hck
        rcases HR4.out with h | ⟨b, off, h1, h2⟩
        · have := HL.out; rw [h] at this; simp at this; omega
        · exact ⟨b, off, h1, fun i hi => h2 i (by rw [HL.out]; exact hi)⟩
      have n0 : ¬ c + s < k → nx = 0 := by
        intro h; rw [← hnx, List.getD, List.getElem?_eq_none (by rw [HL.out]; omega)]; rfl
      have f0 : ¬ c < k → f = 0 := by
        intro h; rw [← hf, List.getD, List.getElem?_eq_none (by rw [HL.out]; omega)]; rfl
      have HN : Hid (zs.getD (c + s) 0 = nx) := hnx
      have HF : Hid (zs.getD c 0 = f) := hf
      have HC : Hid (c < k → ∃ b off, a' = some ⟨b, off, none⟩ ∧ ∀ i, i < k → W4.cell? ⟨b, off + i, none⟩ = some (.int .i64 (zs.getD i 0))) := cells
      have N0 : Hid (¬ c + s < k → nx = 0) := n0
      have F0 : Hid (¬ c < k → f = 0) := f0
      have E0 : Hid (s = 1 → p0 = f) := e0
      have EW : Hid (pw = max (p0 - a1) 0) := ew
      clear hp0 hp1 hpw bs hnx hf e0 ew HZZ cells n0 f0
      subst e1
      have sh : (p0 - a1 < 0 ∧ pw = 0) ∨ (¬ p0 - a1 < 0 ∧ pw = p0 - a1) := by have := EW.out; omega
      clear EW
      by_cases hF : c < k
      · obtain ⟨b, off, rfl, hc⟩ := HC.out hF
        have c2 := hc c hF
        rw [HF.out] at c2
        have hF' : (c : Int) < k := by omega
        by_cases hN : c + s < k
        · have c1 := hc (c + s) hN
          rw [HN.out] at c1
          have hN' : (c : Int) + s < k := by omega
          clear hc
          by_cases hs1 : s = 1
          · have hs1' : ((s : Int) == 1) = true := by simp [hs1]
            have e0 := E0.out hs1
            have HS : Hid (s = 1) := hs1
            clear hs1
            subst e0
            rcases sh with ⟨s1, rfl⟩ | ⟨s1, rfl⟩
            all_goals
              go_wp2
              go_ret
              exact ⟨rfl, hbel⟩
          · have hs1' : ((s : Int) == 1) = false := by simp; omega
            rcases sh with ⟨s1, rfl⟩ | ⟨s1, rfl⟩
            all_goals
              go_wp2
              go_ret
              exact ⟨rfl, hbel⟩
        · have hn0 := N0.out hN
          subst hn0
          clear hc
          by_cases hs1 : s = 1
          · have hs1' : ((s : Int) == 1) = true := by simp [hs1]
            have e0 := E0.out hs1
            have HS : Hid (s = 1) := hs1
            clear hs1
            subst e0
            rcases sh with ⟨s1, rfl⟩ | ⟨s1, rfl⟩
            all_goals
              go_wp2
              go_ret
              exact ⟨rfl, hbel⟩
          · have hs1' : ((s : Int) == 1) = false := by simp; omega
            rcases sh with ⟨s1, rfl⟩ | ⟨s1, rfl⟩
            all_goals
              go_wp2
              go_ret
              exact ⟨rfl, hbel⟩
      · have hn0 := N0.out (by omega)
        subst hn0
        have hf0 := F0.out hF
        by_cases hs1 : s = 1
        · have hs1' : ((s : Int) == 1) = true := by simp [hs1]
          have e0 := E0.out hs1
          have HS : Hid (s = 1) := hs1
          clear hs1
          subst e0
          rcases sh with ⟨s1, rfl⟩ | ⟨s1, rfl⟩
          all_goals
            go_wp2
            go_ret
            exact ⟨rfl, hbel⟩
        · have hs1' : ((s : Int) == 1) = false := by simp; omega
          rcases sh with ⟨s1, rfl⟩ | ⟨s1, rfl⟩
          all_goals
            go_wp2
            go_ret
            exact ⟨rfl, hbel⟩
end Go.Proofs.Qxb6605303a
