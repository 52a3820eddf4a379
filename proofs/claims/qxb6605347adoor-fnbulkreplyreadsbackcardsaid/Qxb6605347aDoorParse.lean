/- The walk of ZZparseLength (parseLength). -/
import Derived.Test.Qxb6605347aDoorBase
import Derived.Test.Qxb6605347aDoorParsePlain
namespace Go.Proofs.Qxb6605347aDoor
open Go.RowKit
set_option linter.unusedVariables false

/-- The digits behind an optional minus sign start here. -/
def startOf (xs : List Int) : Nat := if 0 < xs.length ∧ xs.getD 0 0 = 45 then 1 else 0
/-- The text is an optional minus sign and one to ten digits. -/
def Shape (xs : List Int) : Prop := 1 ≤ (xs.drop (startOf xs)).length ∧ (xs.drop (startOf xs)).length ≤ 10 ∧ Digs (xs.drop (startOf xs))
/-- The number that it writes. -/
def numOf (xs : List Int) : Int := if startOf xs = 1 then - val (xs.drop (startOf xs)) else val (xs.drop (startOf xs))
/-- What parseLength gives. -/
def Parsed (xs : List Int) (v : Int) (ok : Bool) : Prop := (ok = true ∧ Shape xs ∧ v = numOf xs) ∨ (ok = false ∧ ¬ Shape xs ∧ v = 0)

/-- What a call of ZZparseLength leaves. -/
def ParsePost (xs : List Int) (w : World) (e : Ending) (w' : World) : Prop := ∃ v ok, e = .returned (.tuple #[.int .i64 v, .bool ok]) ∧ Hid (Parsed xs v ok) ∧ w = w'

theorem getD_drop (xs : List Int) (k i : Nat) : (xs.drop k).getD i 0 = xs.getD (k + i) 0 := by simp [List.getD]

set_option maxHeartbeats 400000 in
theorem parse_any (a : Option Addr) (n cap : Nat) (xs : List Int) (w : World) (hn : xs.length = n) (hrow : Row .u8 w a xs) (hby : ∀ i, 0 ≤ xs.getD i 0 ∧ xs.getD i 0 ≤ 255) (hn2 : n ≤ 16777216) (hcap : n ≤ cap) :
    Calls Tryd.prog 9 #[.slice a n cap] w (ParsePost xs w) := by
  by_cases h0 : n = 0
  · have hs : ¬ Shape xs := by
      intro h; have := h.1; simp at this; omega
    have HS : Hid (¬ Shape xs) := hs
    clear hrow hs hn hby
    subst h0
    go_enter Tryd.func9, Tryd.ntmps9
    go_wp2
    go_ret2
    exact ⟨0, false, rfl, .inr ⟨rfl, HS.out, rfl⟩, rfl⟩
  have hpos : (0 : Int) < (n : Int) := by omega
  have hne0 : ((n : Int) == 0) = false := by simp; omega
  rcases hrow with hrow | ⟨b, off, rfl, hcell⟩
  · rw [hrow] at hn; simp at hn; omega
  have c0 : w.cell? ⟨b, off, none⟩ = some (.int .u8 (xs.getD 0 0)) := by simpa using hcell 0 (by omega)
  by_cases hz : xs.getD 0 0 = 45
  · rw [hz] at c0
    have hst : startOf xs = 1 := by unfold startOf; rw [if_pos ⟨by omega, hz⟩]
    by_cases h1 : n = 1
    · have hs : ¬ Shape xs := by
        intro h; have := h.1; rw [hst] at this; simp at this; omega
      have HS : Hid (¬ Shape xs) := hs
      clear hs hn hby hst hcell hne0 hpos h0
      subst h1
      by_cases hc1 : cap = 1
      · subst hc1
        go_enter Tryd.func9, Tryd.ntmps9
        go_wp2
        go_ret2
        exact ⟨0, false, rfl, .inr ⟨rfl, HS.out, rfl⟩, rfl⟩
      · go_enter Tryd.func9, Tryd.ntmps9
        go_wp2
        go_ret2
        exact ⟨0, false, rfl, .inr ⟨rfl, HS.out, rfl⟩, rfl⟩
    have hc1 : ¬ cap = 1 := by omega
    have hone : (1 : Int) ≤ (n : Int) := by omega
    obtain ⟨m, rfl⟩ : ∃ m, n = m + 1 := ⟨n - 1, by omega⟩
    have hm1 : ((m : Int) == 0) = false := by simp; omega
    by_cases h11 : (10 : Int) < m
    · have hs : ¬ Shape xs := by
        intro h; have := h.2.1; rw [hst] at this; simp at this; omega
      have HS : Hid (¬ Shape xs) := hs
      clear hs hn hby hst hcell hne0 hpos h0
      go_enter Tryd.func9, Tryd.ntmps9
      go_wp2
      go_ret2
      exact ⟨0, false, rfl, .inr ⟨rfl, HS.out, rfl⟩, rfl⟩
    obtain ⟨ds, hds⟩ : ∃ ds, xs.drop 1 = ds := ⟨_, rfl⟩
    have hdl : ds.length = m := by rw [← hds]; simp; omega
    have HC : Hid (∀ i, i < m → w.cell? ⟨b, off + 1 + i, none⟩ = some (.int .u8 (ds.getD i 0)) ∧ 0 ≤ ds.getD i 0 ∧ ds.getD i 0 ≤ 255) := fun i hi => by
      rw [← hds, getD_drop, Nat.add_assoc]; exact ⟨hcell (1 + i) (by omega), hby (1 + i)⟩
    have HL : Hid (ds.length = m) := hdl
    have HY : Hid (Digs ds → Parsed xs (- val ds) true) := fun h => .inl ⟨rfl, by unfold Shape; rw [hst, hds]; exact ⟨by omega, by omega, h⟩, by unfold numOf; rw [if_pos hst, hst, hds]⟩
    have HNO : Hid (¬ Digs ds → Parsed xs 0 false) := fun h => .inr ⟨rfl, by unfold Shape; rw [hst, hds]; exact fun h' => h h'.2.2, rfl⟩
    clear hn hby hst hcell hds hdl hz
    go_enter Tryd.func9, Tryd.ntmps9
    go_wp2
    go_loop [5, 30] (fun t i => ∃ k : Nat, k ≤ m ∧ i = .int .i64 k ∧ t = .int .i64 (val (ds.take k)) ∧ Hid (∀ j, j < k → 48 ≤ ds.getD j 0 ∧ ds.getD j 0 ≤ 57)) (fun _ i => m - (intOf i).toNat)
    case atStart => exact ⟨0, Nat.zero_le _, rfl, rfl, fun j hj => absurd hj (by omega)⟩
    case round =>
      obtain ⟨k, hk, rfl, rfl, HD⟩ := hrel
      by_cases hlt : k < m
      · have hck := (HC.out k hlt).1
        have hbk := (HC.out k hlt).2
        have hvt := val_take ds k (by rw [HL.out]; exact hlt)
        have hvb := val_le (ds.take k) (by simp; omega) (Digs.of_getD (fun i hi => by
          have hi' : i < k := by simp at hi; omega
          have := HD.out i hi'
          simpa [List.getD, hi'] using this))
        obtain ⟨V, hV⟩ : ∃ V, val (ds.take k) = V := ⟨_, rfl⟩
        obtain ⟨y, hy⟩ : ∃ y, ds.getD k 0 = y := ⟨_, rfl⟩
        rw [hV] at hvb hvt
        rw [hy] at hck hbk hvt
        rw [hV]
        have HV : Hid (val (ds.take (k + 1)) = V * 10 + (y - 48)) := hvt
        have HK : Hid (ds.getD k 0 = y) := hy
        clear hvt hy hV
        by_cases hb1 : y < 48
        · go_wp2
          go_ret2
          exact ⟨0, false, rfl, HNO.out (fun h => by have := h.getD k (by rw [HL.out]; exact hlt); rw [HK.out] at this; omega), rfl⟩
        by_cases hb2 : 57 < y
        · go_wp2
          go_ret2
          exact ⟨0, false, rfl, HNO.out (fun h => by have := h.getD k (by rw [HL.out]; exact hlt); rw [HK.out] at this; omega), rfl⟩
        go_wp2
        go_round
        case rel =>
          refine ⟨k + 1, by omega, by go_num, by rw [HV.out], fun j hj => ?_⟩
          by_cases hjk : j < k
          · exact HD.out j hjk
          · obtain rfl : j = k := by omega
            rw [HK.out]; omega
        case measure => simp [intOf]; omega
      · obtain rfl : k = m := by omega
        have hall : ds.take k = ds := List.take_of_length_le (by rw [HL.out]; exact Nat.le_refl _)
        have HDD : Hid (Digs ds) := Digs.of_getD (by rw [HL.out]; exact HD.out)
        have hvb := val_le ds (by rw [HL.out]; omega) HDD.out
        rw [hall]
        clear hall
        go_wp2
        go_ret2
        exact ⟨_, true, rfl, HY.out HDD.out, rfl⟩
  · have hst : startOf xs = 0 := by unfold startOf; rw [if_neg (fun h => hz h.2)]
    have hz' : (xs.getD 0 0 == 45) = false := beq_eq_false_iff_ne.2 hz
    obtain ⟨z, hzz⟩ : ∃ z, xs.getD 0 0 = z := ⟨_, rfl⟩
    rw [hzz] at hz' c0
    by_cases h11 : (10 : Int) < n
    · have hs : ¬ Shape xs := by
        intro h; have := h.2.1; rw [hst] at this; simp at this; omega
      have HS : Hid (¬ Shape xs) := hs
      clear hs hn hby hst hcell h0 hzz hz
      go_enter Tryd.func9, Tryd.ntmps9
      go_wp2
      go_ret2
      exact ⟨0, false, rfl, .inr ⟨rfl, HS.out, rfl⟩, rfl⟩
    obtain ⟨ds, hds⟩ : ∃ ds, xs.drop 0 = ds := ⟨_, rfl⟩
    have hdl : ds.length = n := by rw [← hds]; simp; omega
    have HC : Hid (∀ i, i < n → w.cell? ⟨b, off + i, none⟩ = some (.int .u8 (ds.getD i 0)) ∧ 0 ≤ ds.getD i 0 ∧ ds.getD i 0 ≤ 255) := fun i hi => by
      rw [← hds, getD_drop, Nat.zero_add]; exact ⟨hcell i (by omega), hby i⟩
    have HL : Hid (ds.length = n) := hdl
    have HY : Hid (Digs ds → Parsed xs (val ds) true) := fun h => .inl ⟨rfl, by unfold Shape; rw [hst, hds]; exact ⟨by omega, by omega, h⟩, by unfold numOf; rw [if_neg (by omega), hst, hds]⟩
    have HNO : Hid (¬ Digs ds → Parsed xs 0 false) := fun h => .inr ⟨rfl, by unfold Shape; rw [hst, hds]; exact fun h' => h h'.2.2, rfl⟩
    clear hn hby hst hcell hds hdl hz hzz
    go_enter Tryd.func9, Tryd.ntmps9
    go_wp2
    go_loop [5, 30] (fun t i => ∃ k : Nat, k ≤ n ∧ i = .int .i64 k ∧ t = .int .i64 (val (ds.take k)) ∧ Hid (∀ j, j < k → 48 ≤ ds.getD j 0 ∧ ds.getD j 0 ≤ 57)) (fun _ i => n - (intOf i).toNat)
    case atStart => exact ⟨0, Nat.zero_le _, rfl, rfl, fun j hj => absurd hj (by omega)⟩
    case round =>
      obtain ⟨k, hk, rfl, rfl, HD⟩ := hrel
      by_cases hlt : k < n
      · have hck := (HC.out k hlt).1
        have hbk := (HC.out k hlt).2
        have hvt := val_take ds k (by rw [HL.out]; exact hlt)
        have hvb := val_le (ds.take k) (by simp; omega) (Digs.of_getD (fun i hi => by
          have hi' : i < k := by simp at hi; omega
          have := HD.out i hi'
          simpa [List.getD, hi'] using this))
        obtain ⟨V, hV⟩ : ∃ V, val (ds.take k) = V := ⟨_, rfl⟩
        obtain ⟨y, hy⟩ : ∃ y, ds.getD k 0 = y := ⟨_, rfl⟩
        rw [hV] at hvb hvt
        rw [hy] at hck hbk hvt
        rw [hV]
        have HV : Hid (val (ds.take (k + 1)) = V * 10 + (y - 48)) := hvt
        have HK : Hid (ds.getD k 0 = y) := hy
        clear hvt hy hV
        by_cases hb1 : y < 48
        · go_wp2
          go_ret2
          exact ⟨0, false, rfl, HNO.out (fun h => by have := h.getD k (by rw [HL.out]; exact hlt); rw [HK.out] at this; omega), rfl⟩
        by_cases hb2 : 57 < y
        · go_wp2
          go_ret2
          exact ⟨0, false, rfl, HNO.out (fun h => by have := h.getD k (by rw [HL.out]; exact hlt); rw [HK.out] at this; omega), rfl⟩
        go_wp2
        go_round
        case rel =>
          refine ⟨k + 1, by omega, by go_num, by rw [HV.out], fun j hj => ?_⟩
          by_cases hjk : j < k
          · exact HD.out j hjk
          · obtain rfl : j = k := by omega
            rw [HK.out]; omega
        case measure => simp [intOf]; omega
      · obtain rfl : k = n := by omega
        have hall : ds.take k = ds := List.take_of_length_le (by rw [HL.out]; exact Nat.le_refl _)
        have HDD : Hid (Digs ds) := Digs.of_getD (by rw [HL.out]; exact HD.out)
        have hvb := val_le ds (by rw [HL.out]; omega) HDD.out
        rw [hall]
        clear hall
        go_wp2
        go_ret2
        exact ⟨_, true, rfl, HY.out HDD.out, rfl⟩

end Go.Proofs.Qxb6605347aDoor
