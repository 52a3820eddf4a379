/- The walk of FnAppendLineExact. -/
import Derived.Test.Qxb6605347aLine
namespace Go.Proofs.Qxb6605347a
open Go.RowKit
set_option linter.unusedVariables false

theorem getD_map_clean (ts : List Int) (i : Nat) (h : i < ts.length) : (ts.map clean).getD i 0 = clean (ts.getD i 0) := by
  simp [List.getD, h]

set_option maxRecDepth 100000 in
set_option maxHeartbeats 1000000 in
theorem line_walk (a0 : Option Addr) (len0 cap0 : Nat) (z0 : List Int) (a1 : Option Addr) (len1 cap1 : Nat) (z1 : List Int) (w : World) (w0 : InRow .u8 w a0 len0 cap0 z0) (w1 : InRow .u8 w a1 len1 cap1 z1) :
    Calls Try.prog 4 #[.slice a0 len0 cap0, .slice a1 len1 cap1] w fun e w' => e = .returned (.bool true) ∧ Below w.heap.size w w' := by
  by_cases hbig : (1048576 : Int) < len0
  · clear w0 w1
    go_enter Try.func4, Try.ntmps4
    go_wp2
    go_ret
    exact ⟨rfl, Below.refl _ _⟩
  by_cases hbig1 : (1048576 : Int) < len1
  · clear w0 w1
    go_enter Try.func4, Try.ntmps4
    go_wp2
    go_ret
    exact ⟨rfl, Below.refl _ _⟩
  by_cases hbig2 : (1048576 : Int) < (len0 : Int) + len1
  · clear w0 w1
    go_enter Try.func4, Try.ntmps4
    go_wp2
    go_ret
    exact ⟨rfl, Below.refl _ _⟩
  by_cases hbig3 : (524288 : Int) < len0
  · clear w0 w1
    go_enter Try.func4, Try.ntmps4
    go_wp2
    go_ret
    exact ⟨rfl, Below.refl _ _⟩
  by_cases hbig4 : (524288 : Int) < len1
  · clear w0 w1
    go_enter Try.func4, Try.ntmps4
    go_wp2
    go_ret
    exact ⟨rfl, Below.refl _ _⟩
  have HW0 : Hid (InRow .u8 w a0 len0 cap0 z0) := w0
  have HW1 : Hid (InRow .u8 w a1 len1 cap1 z1) := w1
  obtain ⟨zs, hzs⟩ : ∃ zs, z0.take len0 = zs := ⟨_, rfl⟩
  have HZ0 : Hid (z0.take len0 = zs) := hzs
  obtain ⟨ts, hts⟩ : ∃ ts, z1.take len1 = ts := ⟨_, rfl⟩
  have HZ1 : Hid (z1.take len1 = ts) := hts
  clear w0 w1 hzs hts
  go_enter Try.func4, Try.ntmps4
  go_wp2_with (first | (go_at_call 10; go_in))
  refine (clone_any a0 len0 cap0 z0 w HW0.out (by omega)).mono ?_
  rintro e W1 ⟨v1, rfl, hown1, hb1⟩
  rw [HZ0.out] at hown1
  have HI1 : Hid (InRow .u8 W1 a1 len1 cap1 z1) := by
    rcases HW1.out with h | ⟨x, h1, h2, h3, h4, h5, h6⟩
    · exact .inl h
    · exact .inr ⟨x, h1, h2, h3, h4, fun i hi => cell_later hb1 (h5 i hi), h6⟩
  have HO1 : Hid (W1.ownsRow w.heap.size 5 1 (.slice v1 len0 len0) len0 (zs.map (Value.int .u8))) := hown1
  clear hown1 HW0 HW1 HZ0
  go_wp2_with fail
  refine (clone_any a1 len1 cap1 z1 W1 HI1.out (by omega)).mono ?_
  rintro e W2 ⟨v2, rfl, hown2, hb2⟩
  rw [HZ1.out] at hown2
  obtain ⟨hr2, hl2⟩ := ownsRow_row hown2
  have HO2 : Hid (W2.ownsRow w.heap.size 5 1 (.slice v1 len0 len0) len0 (zs.map (Value.int .u8))) := ownsRow_below HO1.out hb2
  obtain ⟨hr1, hl1⟩ := ownsRow_row HO2.out
  have HT2 : Hid (Row .u8 W2 v2 ts) := hr2
  have HTL : Hid (ts.length = len1) := hl2
  have HD2 : Hid (Row .u8 W2 v1 zs) := hr1
  have HZL : Hid (zs.length = len0) := hl1
  clear hown2 hr2 hl2 hr1 hl1 HI1 HO1 HZ1
  go_wp2_with fail
  refine (appLine W2 w.heap.size v1 v2 len0 len1 len1 zs ts HO2.out HT2.out HTL.out (by omega)).mono ?_
  rintro e W3 ⟨g, cap, rfl, hown3, hb3⟩
  obtain ⟨hlx, hcap, hcells⟩ := owned_cells hown3
  have hbel : Below w.heap.size w W3 := (hb1.trans (hb2.mono hb1.size)).trans (hb3.mono (Nat.le_trans hb1.size hb2.size))
  have HT3 : Hid (Row .u8 W3 v2 ts) := HT2.out.below hb3
  have HD3 : Hid (Row .u8 W3 v1 zs) := HD2.out.below hb3
  have hzl := (show zs.length = len0 from HZL.out)
  have htl := (show ts.length = len1 from HTL.out)
  have HP : Hid (Row .u8 W3 (some ⟨g, 0, none⟩) zs) := .inr ⟨g, 0, rfl, fun i hi => by rw [Nat.zero_add, hcells i (by omega), List.append_assoc, getD_left _ _ _ hi]⟩
  have HM : Hid (∀ i, i < len1 → W3.cell? ⟨g, len0 + i, none⟩ = some (.int .u8 (clean (ts.getD i 0)))) := fun i hi => by
    rw [hcells (len0 + i) (by omega), List.append_assoc, ← hzl, getD_right, getD_left _ _ _ (by simp; omega), getD_map_clean ts i (by omega)]
  have c13 : W3.cell? ⟨g, len0 + len1, none⟩ = some (.int .u8 13) := by
    rw [hcells (len0 + len1) (by omega)]
    have := getD_right (zs ++ ts.map clean) [13, 10] 0
    rw [show (zs ++ ts.map clean).length + 0 = len0 + len1 by simp [hzl, htl]] at this
    rw [this]; rfl
  have c10 : W3.cell? ⟨g, len0 + len1 + 1, none⟩ = some (.int .u8 10) := by
    rw [hcells (len0 + len1 + 1) (by omega)]
    have := getD_right (zs ++ ts.map clean) [13, 10] 1
    rw [show (zs ++ ts.map clean).length + 1 = len0 + len1 + 1 by simp [hzl, htl]] at this
    rw [this]; rfl
  have hcl : ¬ cap = len0 := by omega
  clear hown3 hlx hcells hzl htl hb1 hb2 hb3 HT2 HD2 HO2
  go_wp2_with fail
  refine (equal_same (some ⟨g, 0, none⟩) v1 len0 cap len0 zs HZL.out (by omega) W3 HP.out HD3.out).mono ?_
  rintro e W4 ⟨rfl, q, rfl⟩
  have hbel2 := below_drewN hbel q
  have hsub : len0 + len1 - len0 = len1 := by omega
  go_wp2
  clear hsub
  go_loopw [7] (fun i wr => ∃ k : Nat, k ≤ len1 ∧ i = .int .i64 k ∧ ∃ m, wr = W3.drewN m) (fun i _ => len1 - (intOf i).toNat)
  case atStart => exact ⟨0, Nat.zero_le _, rfl, q, rfl⟩
  case round =>
    obtain ⟨k, hk, rfl, m, rfl⟩ := hrel
    by_cases hlt : k < len1
    · have hm := HM.out k hlt
      obtain ⟨tb, to, rfl, ht⟩ : ∃ b off, v2 = some ⟨b, off, none⟩ ∧ W3.cell? ⟨b, off + k, none⟩ = some (.int .u8 (ts.getD k 0)) := by
        rcases HT3.out with h | ⟨b, off, h1, h2⟩
        · have := HTL.out; rw [h] at this; simp at this; omega
        · exact ⟨b, off, h1, h2 k (by rw [HTL.out]; exact hlt)⟩
      obtain ⟨y, hy⟩ : ∃ y, ts.getD k 0 = y := ⟨_, rfl⟩
      rw [hy] at hm ht
      clear hy
      have hlt' : (k : Int) < len1 := by omega
      by_cases h13 : y = 13
      · subst h13
        have e : clean 13 = 32 := rfl
        rw [e] at hm
        clear e
        go_wp2
        go_roundw
        case rel => exact ⟨k + 1, by omega, by go_num, m, rfl⟩
        case measure => simp [intOf]; omega
      by_cases h10 : y = 10
      · subst h10
        have e : clean 10 = 32 := rfl
        rw [e] at hm
        clear e
        go_wp2
        go_roundw
        case rel => exact ⟨k + 1, by omega, by go_num, m, rfl⟩
        case measure => simp [intOf]; omega
      have e : clean y = y := by unfold clean; rw [if_neg (by omega)]
      rw [e] at hm
      have b13 : (y == 13) = false := beq_eq_false_iff_ne.2 h13
      have b10 : (y == 10) = false := beq_eq_false_iff_ne.2 h10
      clear e
      go_wp2
      go_quiet (fail)
      go_wp2
      go_roundw
      case rel => exact ⟨k + 1, by omega, by go_num, _, rfl⟩
      case measure => simp [intOf]; omega
    · obtain rfl : k = len1 := by omega
      have hbel3 := below_drewN hbel m
      go_wp2
      go_ret
      exact ⟨rfl, hbel3⟩

end Go.Proofs.Qxb6605347a
