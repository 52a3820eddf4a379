/- The walk of FnBulkReplyReadsBack. -/
import Derived.Test.Qxb6605347aDoorBulk
namespace Go.Proofs.Qxb6605347aDoor
open Go.RowKit
set_option linter.unusedVariables false

theorem Parsed.yes {xs : List Int} {v : Int} {ok : Bool} (h : Parsed xs v ok) (hs : Shape xs) : ok = true ∧ v = numOf xs := by
  rcases h with ⟨h1, _, h2⟩ | ⟨_, h, _⟩
  · exact ⟨h1, h2⟩
  · exact absurd hs h

/-- A numeral reads back. -/
theorem dec_parsed (u : Nat) (hu : u ≤ 524288) {v : Int} {ok : Bool} (h : Parsed (decI u) v ok) : ok = true ∧ v = (u : Int) := by
  obtain ⟨h1, h2, h3, h4⟩ := decI_facts u hu
  have hst : startOf (decI u) = 0 := by
    unfold startOf
    rw [if_neg (fun hh => ?_)]
    have := h2.getD 0 (by omega)
    omega
  have hs : Shape (decI u) := by unfold Shape; rw [hst]; simp only [List.drop_zero]; exact ⟨h3, by omega, h2⟩
  have := h.yes hs
  unfold numOf at this
  rw [if_neg (by omega), hst, List.drop_zero, h1] at this
  exact this

theorem bulk_0 (ts : List Int) : (bulk ts).getD 0 0 = 36 := rfl
theorem bulk_len (ts : List Int) : (bulk ts).length = (decI ts.length).length + ts.length + 5 := by unfold bulk; simp; omega
theorem bulk_dig (ts : List Int) (i : Nat) (hi : i < (decI ts.length).length) : (bulk ts).getD (1 + i) 0 = (decI ts.length).getD i 0 := by
  unfold bulk
  rw [List.append_assoc, List.append_assoc, List.append_assoc]
  rw [show 1 + i = ([36] : List Int).length + i from rfl, getD_right, getD_left _ _ _ hi]
theorem bulk_cr (ts : List Int) (d : Nat) (hd : (decI ts.length).length = d) : (bulk ts).getD (d + 1) 0 = 13 ∧ (bulk ts).getD (d + 2) 0 = 10 := by
  unfold bulk
  rw [List.append_assoc _ ts, List.append_assoc _ [13, 10]]
  have e : ([36] ++ decI ts.length).length = d + 1 := by simp [hd]
  have h0 := getD_right ([36] ++ decI ts.length) ([13, 10] ++ (ts ++ [13, 10])) 0
  have h1 := getD_right ([36] ++ decI ts.length) ([13, 10] ++ (ts ++ [13, 10])) 1
  rw [e] at h0 h1
  exact ⟨h0, h1⟩
theorem bulk_text (ts : List Int) (d : Nat) (hd : (decI ts.length).length = d) (i : Nat) (hi : i < ts.length) : (bulk ts).getD (d + 3 + i) 0 = ts.getD i 0 := by
  unfold bulk
  rw [List.append_assoc _ ts]
  have e : ([36] ++ decI ts.length ++ [13, 10]).length = d + 3 := by simp [hd]
  have h0 := getD_right ([36] ++ decI ts.length ++ [13, 10]) (ts ++ [13, 10]) i
  rw [e] at h0
  rw [h0, getD_left _ _ _ hi]
theorem bulk_end (ts : List Int) (d m : Nat) (hd : (decI ts.length).length = d) (hm : ts.length = m) : (bulk ts).getD (d + 3 + m) 0 = 13 ∧ (bulk ts).getD (d + 3 + m + 1) 0 = 10 := by
  unfold bulk
  have e : ([36] ++ decI ts.length ++ [13, 10] ++ ts).length = d + 3 + m := by
    simp only [List.length_append, List.length_cons, List.length_nil, hd]; omega
  have h0 := getD_right ([36] ++ decI ts.length ++ [13, 10] ++ ts) [13, 10] 0
  have h1 := getD_right ([36] ++ decI ts.length ++ [13, 10] ++ ts) [13, 10] 1
  rw [e] at h0 h1
  exact ⟨h0, h1⟩

set_option maxRecDepth 100000 in
set_option maxHeartbeats 1000000 in
theorem bulk_walk (a0 : Option Addr) (len0 cap0 : Nat) (z0 : List Int) (a1 : Option Addr) (len1 cap1 : Nat) (z1 : List Int) (w : World) (w0 : InRow .u8 w a0 len0 cap0 z0) (w1 : InRow .u8 w a1 len1 cap1 z1)
    (htab : Lib.TabIs Tryd.prog w "internal/strconv.uint64pow10" .u64 Lib.pow10Tab) :
    Calls Tryd.prog 3 #[.slice a0 len0 cap0, .slice a1 len1 cap1] w fun e w' => e = .returned (.bool true) ∧ Below w.heap.size w w' := by
  have HTAB : Hid (Lib.TabIs Tryd.prog w "internal/strconv.uint64pow10" .u64 Lib.pow10Tab) := htab
  clear htab
  by_cases hbig : (1048576 : Int) < len0
  · clear w0 w1
    go_enter Tryd.func3, Tryd.ntmps3
    go_wp2
    go_ret
    exact ⟨rfl, Below.refl _ _⟩
  by_cases hbig1 : (1048576 : Int) < len1
  · clear w0 w1
    go_enter Tryd.func3, Tryd.ntmps3
    go_wp2
    go_ret
    exact ⟨rfl, Below.refl _ _⟩
  by_cases hbig2 : (1048576 : Int) < (len0 : Int) + len1
  · clear w0 w1
    go_enter Tryd.func3, Tryd.ntmps3
    go_wp2
    go_ret
    exact ⟨rfl, Below.refl _ _⟩
  by_cases hbig3 : (524288 : Int) < len0
  · clear w0 w1
    go_enter Tryd.func3, Tryd.ntmps3
    go_wp2
    go_ret
    exact ⟨rfl, Below.refl _ _⟩
  by_cases hbig4 : (524288 : Int) < len1
  · clear w0 w1
    go_enter Tryd.func3, Tryd.ntmps3
    go_wp2
    go_ret
    exact ⟨rfl, Below.refl _ _⟩
  have HW0 : Hid (InRow .u8 w a0 len0 cap0 z0) := w0
  have HW1 : Hid (InRow .u8 w a1 len1 cap1 z1) := w1
  obtain ⟨ts, hts⟩ : ∃ ts, z0.take len0 = ts := ⟨_, rfl⟩
  have HZ0 : Hid (z0.take len0 = ts) := hts
  obtain ⟨zs, hzs⟩ : ∃ zs, z1.take len1 = zs := ⟨_, rfl⟩
  have HZ1 : Hid (z1.take len1 = zs) := hzs
  clear w0 w1 hzs hts
  go_enter Tryd.func3, Tryd.ntmps3
  go_wp2_with (first | (go_at_call 5; go_in))
  refine (clone_any a0 len0 cap0 z0 w HW0.out (by omega)).mono ?_
  rintro e W1 ⟨vt, rfl, hown1, hb1⟩
  rw [HZ0.out] at hown1
  have HI1 : Hid (InRow .u8 W1 a1 len1 cap1 z1) := by
    rcases HW1.out with h | ⟨x, h1, h2, h3, h4, h5, h6⟩
    · exact .inl h
    · exact .inr ⟨x, h1, h2, h3, h4, fun i hi => cell_later hb1 (h5 i hi), h6⟩
  have hnone : vt = none → len0 = 0 := by
    rintro rfl
    rcases hown1.2 with ⟨_, h⟩ | ⟨g, cp, _, h, _⟩
    · exact h
    · simp at h
  have HNO : Hid (vt = none → len0 = 0) := hnone
  obtain ⟨hr1, hl1⟩ := ownsRow_row hown1
  have HT1 : Hid (Row .u8 W1 vt ts) := hr1
  have HTL : Hid (ts.length = len0) := hl1
  clear hown1 HW0 HW1 HZ0 hr1 hl1 hnone
  go_wp2_with fail
  refine (clone_any a1 len1 cap1 z1 W1 HI1.out (by omega)).mono ?_
  rintro e W2 ⟨vd, rfl, hown2, hb2⟩
  rw [HZ1.out] at hown2
  obtain ⟨hr2, hl2⟩ := ownsRow_row hown2
  have HT2 : Hid (Row .u8 W2 vt ts) := HT1.out.below hb2
  have HD2 : Hid (Row .u8 W2 vd zs) := hr2
  have HZL : Hid (zs.length = len1) := hl2
  have HO2 : Hid (W2.ownsRow W1.heap.size 5 1 (.slice vd len1 len1) len1 (zs.map (Value.int .u8))) := hown2
  have hbw2 : Below w.heap.size w W2 := hb1.trans (hb2.mono hb1.size)
  have HTB2 : Hid (Lib.TabIs Tryd.prog W2 "internal/strconv.uint64pow10" .u64 Lib.pow10Tab) := Lib.tabBelow_of_tabIs HTAB.out W2 hbw2
  have HBW2 : Hid (Below w.heap.size w W2) := hbw2
  obtain ⟨d, hd⟩ : ∃ d, (decI len0).length = d := ⟨_, rfl⟩
  have hdf := decI_facts len0 (by omega)
  rw [hd] at hdf
  obtain ⟨R, hR⟩ : ∃ R, (bulk ts).length = R := ⟨_, rfl⟩
  have hRd : R = d + len0 + 5 := by rw [← hR, bulk_len, HTL.out, hd]
  have HR : Hid ((bulk ts).length = R) := hR
  have HRD : Hid (R = d + len0 + 5) := hRd
  have HD : Hid ((decI len0).length = d) := hd
  have hRb : R ≤ 600000 := by omega
  have hd1 : 1 ≤ d ∧ d ≤ 7 := hdf.2.2
  have hRlow : d + 5 ≤ R := by omega
  have HDG : Hid (Digs (decI len0)) := hdf.2.1
  clear hown2 hr2 hl2 HI1 HZ1 hb1 hb2 HT1 HTAB hbw2 hd hdf hR hRd
  go_wp2_with fail
  refine (appendTo W2 W1.heap.size vd vt len1 len0 len0 zs ts HO2.out HT2.out HTL.out HNO.out (by omega) (by omega) HTB2.out (len1 + R) (by rw [HR.out])).mono ?_
  rintro e W3 ⟨g, cap, rfl, hown3, hb3⟩
  obtain ⟨hlx, hcap, hcells⟩ := owned_cells hown3
  have hbel : Below w.heap.size w W3 := HBW2.out.trans (hb3.mono HBW2.out.size)
  have HT3 : Hid (Row .u8 W3 vt ts) := HT2.out.below hb3
  have HD3 : Hid (Row .u8 W3 vd zs) := HD2.out.below hb3
  have hzl := (show zs.length = len1 from HZL.out)
  have HP : Hid (Row .u8 W3 (some ⟨g, 0, none⟩) zs) := .inr ⟨g, 0, rfl, fun i hi => by rw [Nat.zero_add, hcells i (by omega), getD_left _ _ _ hi]⟩
  have HM : Hid (∀ i, i < R → W3.cell? ⟨g, len1 + i, none⟩ = some (.int .u8 ((bulk ts).getD i 0))) := fun i hi => by
    rw [hcells (len1 + i) (by omega), ← hzl, getD_right]
  obtain ⟨c, rfl⟩ : ∃ c, cap = len1 + c := ⟨cap - len1, by omega⟩
  have hcR : R ≤ c := by omega
  have hcl : ¬ len1 + c = len1 := by omega
  have hcl0 : ¬ c = 0 := by omega
  clear hcap
  clear hown3 hlx hcells hzl hb3 HT2 HD2 HO2 HTB2 HBW2
  have hdd : decide ((len1 : Int) + (R : Int) < len1) = false := by simp; omega
  go_wp2_with fail
  refine (equal_same (some ⟨g, 0, none⟩) vd len1 (len1 + c) len1 zs HZL.out (by omega) W3 HP.out HD3.out).mono ?_
  rintro e W4 ⟨rfl, q, rfl⟩
  have hbel2 := below_drewN hbel q
  have c0 : W3.cell? ⟨g, len1, none⟩ = some (.int .u8 36) := by
    have h := HM.out 0 (by omega)
    rw [bulk_0, Nat.add_zero] at h
    exact h
  have hR1 : decide ((R : Int) < 1) = false := by simp; omega
  have hR0 : (0 : Int) < R := by omega
  go_wp2
  go_loop [7] (fun i => ∃ j : Nat, 1 ≤ j ∧ j ≤ d + 1 ∧ i = .int .i64 j) (fun i => d + 1 - (intOf i).toNat)
  case atStart => exact ⟨1, by omega, by omega, rfl⟩
  case round =>
    obtain ⟨j, hj1, hj2, rfl⟩ := hrel
    have hjR : (j : Int) < R := by omega
    by_cases hlt : j < d + 1
    · obtain ⟨k, rfl⟩ : ∃ k, j = 1 + k := ⟨j - 1, by omega⟩
      have hck := HM.out (1 + k) (by omega)
      rw [bulk_dig ts k (by rw [HTL.out, HD.out]; omega), HTL.out] at hck
      have hdg := HDG.out.getD k (by rw [HD.out]; omega)
      obtain ⟨y, hy⟩ : ∃ y, (decI len0).getD k 0 = y := ⟨_, rfl⟩
      rw [hy] at hck hdg
      have hne : (y != 13) = true := by simp; omega
      clear hy
      go_wp2
      go_round
      case rel => exact ⟨1 + k + 1, by omega, by omega, by go_num⟩
      case measure => simp [intOf]; omega
    · obtain rfl : j = d + 1 := by omega
      have hck := HM.out (d + 1) (by omega)
      have hck2 := HM.out (d + 2) (by omega)
      have hcr := bulk_cr ts d (by rw [HTL.out]; exact HD.out)
      rw [hcr.1] at hck
      rw [hcr.2] at hck2
      clear hcr
      have hrow : Row .u8 (W3.drewN q) (some ⟨g, len1 + 1, none⟩) (decI len0) := .inr ⟨g, len1 + 1, rfl, fun i hi => by
        have hi' : i < d := by rw [← HD.out]; exact hi
        have h := HM.out (1 + i) (by omega)
        rw [bulk_dig ts i (by rw [HTL.out, HD.out]; omega), HTL.out] at h
        rw [Nat.add_assoc, World.cell?_drewN]
        exact h⟩
      have HROW : Hid (Row .u8 (W3.drewN q) (some ⟨g, len1 + 1, none⟩) (decI len0)) := hrow
      have hc1 : ¬ c = 1 := by omega
      clear hrow
      have HBY : Hid (∀ i, 0 ≤ (decI len0).getD i 0 ∧ (decI len0).getD i 0 ≤ 255) := fun i => by
        by_cases hi : i < (decI len0).length
        · have := HDG.out.getD i hi; omega
        · rw [List.getD, List.getElem?_eq_none (by omega)]; simp
      go_wp2_with fail
      refine (parse_any (some ⟨g, len1 + 1, none⟩) d (c - 1) (decI len0) (W3.drewN q) HD.out HROW.out HBY.out (by omega) (by omega)).mono ?_
      rintro e W5 ⟨v, ok, rfl, hp, rfl⟩
      obtain ⟨rfl, rfl⟩ := dec_parsed len0 (by omega) hp.out
      have hs1 : R - (d + 3) = len0 + 2 := by have := HRD.out; omega
      have hc3 : ¬ c = d + 3 := by have := HRD.out; omega
      have HB : Hid (Row .u8 (W3.drewN q) (some ⟨g, len1 + (d + 1 + 2), none⟩) ts) := .inr ⟨g, len1 + (d + 1 + 2), rfl, fun i hi => by
        have hi' : i < len0 := by rw [← HTL.out]; exact hi
        have h := HM.out (d + 3 + i) (by have := HRD.out; omega)
        rw [bulk_text ts d (by rw [HTL.out]; exact HD.out) i hi] at h
        rw [World.cell?_drewN, Nat.add_assoc]
        exact h⟩
      have hen := bulk_end ts d len0 (by rw [HTL.out]; exact HD.out) HTL.out
      have e13 := HM.out (d + 3 + len0) (by have := HRD.out; omega)
      have e10 := HM.out (d + 3 + len0 + 1) (by have := HRD.out; omega)
      rw [hen.1] at e13
      rw [hen.2] at e10
      have f13 : W3.cell? ⟨g, len1 + (d + 1 + 2) + len0, none⟩ = some (.int .u8 13) := by rw [← e13]; congr 2; omega
      have f10 : W3.cell? ⟨g, len1 + (d + 1 + 2) + (len0 + 1), none⟩ = some (.int .u8 10) := by rw [← e10]; congr 2; omega
      have HT4 : Hid (Row .u8 (W3.drewN q) vt ts) := HT3.out.below (below_drewN (Below.refl _ _) q)
      clear hen hp HROW HBY e13 e10
      go_wp2_with fail
      refine (equal_same (some ⟨g, len1 + (d + 1 + 2), none⟩) vt len0 (c - (d + 1 + 2)) len0 ts HTL.out (by omega) (W3.drewN q) HB.out HT4.out).mono ?_
      rintro e W6 ⟨rfl, q2, rfl⟩
      have hbel3 := below_drewN hbel (q + q2)
      go_wp2
      go_ret
      exact ⟨rfl, hbel3⟩

end Go.Proofs.Qxb6605347aDoor
