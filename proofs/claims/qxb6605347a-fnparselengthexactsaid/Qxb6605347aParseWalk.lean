/- The walk of FnParseLengthExact. -/
import Derived.Test.Qxb6605347aDecimal
namespace Go.Proofs.Qxb6605347a
open Go.RowKit
set_option linter.unusedVariables false

/-- What the loop over the digits knows. -/
def ShapeRel (ds : List Int) (k : Nat) (s : Value) : Prop := (s = .bool true ∧ ∀ j, j < k → 48 ≤ ds.getD j 0 ∧ ds.getD j 0 ≤ 57) ∨ (s = .bool false ∧ ¬ Digs ds)

theorem Parsed.no {xs : List Int} {v : Int} {ok : Bool} (h : Parsed xs v ok) (hs : ¬ Shape xs) : ok = false ∧ v = 0 := by
  rcases h with ⟨_, h, _⟩ | ⟨h1, _, h2⟩
  · exact absurd h hs
  · exact ⟨h1, h2⟩
theorem Parsed.yes {xs : List Int} {v : Int} {ok : Bool} (h : Parsed xs v ok) (hs : Shape xs) : ok = true ∧ v = numOf xs := by
  rcases h with ⟨h1, _, h2⟩ | ⟨_, h, _⟩
  · exact ⟨h1, h2⟩
  · exact absurd hs h

theorem wf_bytes {xs : List Int} (h : ∀ n ∈ xs, (Lit.int .u8 n).wf = true) : ∀ i, 0 ≤ xs.getD i 0 ∧ xs.getD i 0 ≤ 255 := by
  intro i
  by_cases hi : i < xs.length
  · have := bounds_u8 (h (xs[i]) (List.getElem_mem hi))
    simpa [List.getD, hi] using this
  · rw [List.getD, List.getElem?_eq_none (by omega)]; simp

set_option maxRecDepth 100000 in
set_option maxHeartbeats 1600000 in
theorem parse_walk (a0 : Option Addr) (len0 cap0 : Nat) (z0 : List Int) (w : World) (w0 : InRow .u8 w a0 len0 cap0 z0) :
    Calls Try.prog 3 #[.slice a0 len0 cap0] w fun e w' => e = .returned (.bool true) ∧ Below w.heap.size w w' := by
  by_cases hbig : (1048576 : Int) < len0
  · clear w0
    go_enter Try.func3, Try.ntmps3
    go_wp2
    go_ret
    exact ⟨rfl, Below.refl _ _⟩
  have hwf := w0.wf
  have HW : Hid (InRow .u8 w a0 len0 cap0 z0) := w0
  obtain ⟨xs, hxs⟩ : ∃ xs, z0.take len0 = xs := ⟨_, rfl⟩
  have HZ : Hid (z0.take len0 = xs) := hxs
  rw [hxs] at hwf
  have HBY : Hid (∀ i, 0 ≤ xs.getD i 0 ∧ xs.getD i 0 ≤ 255) := wf_bytes hwf
  clear w0 hxs hwf
  go_enter Try.func3, Try.ntmps3
  go_wp2_with (first | (go_at_call 5; go_in))
  refine (clone_any a0 len0 cap0 z0 w HW.out (by omega)).mono ?_
  rintro e W1 ⟨v1, rfl, hown1, hb1⟩
  rw [HZ.out] at hown1
  obtain ⟨hr1, hl1⟩ := ownsRow_row hown1
  have HR1 : Hid (Row .u8 W1 v1 xs) := hr1
  have HL : Hid (xs.length = len0) := hl1
  have HO1 : Hid (W1.ownsRow w.heap.size 5 1 (.slice v1 len0 len0) len0 (xs.map (Value.int .u8))) := hown1
  clear hown1 hr1 hl1 HZ HW
  go_wp2_with fail
  refine (parse_any v1 len0 len0 xs W1 HL.out HR1.out HBY.out (by omega) (Nat.le_refl _)).mono ?_
  rintro e W2 ⟨v, ok, rfl, HP, rfl⟩
  by_cases h0 : len0 = 0
  · have hs : ¬ Shape xs := by
      intro h; have := h.1; have h2 := HL.out; simp at this; omega
    obtain ⟨rfl, rfl⟩ := HP.out.no hs
    have hform := HO1.out.2
    subst h0
    clear hs HO1 HR1 HP HL HBY
    rcases hform with ⟨hv, _⟩ | ⟨g, cp, _, hv, _⟩
    · simp only [Value.slice.injEq] at hv
      obtain ⟨rfl, _⟩ := hv
      go_wp2
      go_loop [7, 8] (fun s i => s = .bool false ∧ i = .int .i64 0) (fun _ _ => 0)
      case atStart => exact ⟨rfl, rfl⟩
      case round =>
        obtain ⟨rfl, rfl⟩ := hrel
        go_wp2
        go_ret
        exact ⟨rfl, hb1⟩
    · simp only [Value.slice.injEq, true_and] at hv
      obtain ⟨rfl, rfl⟩ := hv
      go_wp2
      go_loop [7, 8] (fun s i => s = .bool false ∧ i = .int .i64 0) (fun _ _ => 0)
      case atStart => exact ⟨rfl, rfl⟩
      case round =>
        obtain ⟨rfl, rfl⟩ := hrel
        go_wp2
        go_ret
        exact ⟨rfl, hb1⟩
  obtain ⟨g, cp, hv, hgb, hgl⟩ := HO1.out.form (by omega)
  simp only [Value.slice.injEq, true_and] at hv
  obtain ⟨rfl, rfl⟩ := hv
  have hcell := (owned_cells HO1.out).2.2
  have hpos : (0 : Int) < (len0 : Int) := by omega
  have c0 := hcell 0 (by omega)
  clear HO1 HR1
  by_cases hz : xs.getD 0 0 = 45
  · rw [hz] at c0
    have hst : startOf xs = 1 := by unfold startOf; rw [if_pos ⟨by rw [HL.out]; omega, hz⟩]
    by_cases h1 : len0 = 1
    · have hs : ¬ Shape xs := by
        intro h; have := h.1; have h2 := HL.out; rw [hst] at this; simp at this; omega
      obtain ⟨rfl, rfl⟩ := HP.out.no hs
      subst h1
      clear hs HP HL HBY hcell hst hz
      go_wp2
      go_loop [7, 8] (fun s i => s = .bool false ∧ i = .int .i64 0) (fun _ _ => 0)
      case atStart => exact ⟨rfl, rfl⟩
      case round =>
        obtain ⟨rfl, rfl⟩ := hrel
        go_wp2
        go_ret
        exact ⟨rfl, hb1⟩
    obtain ⟨m, rfl⟩ : ∃ m, len0 = m + 1 := ⟨len0 - 1, by omega⟩
    have hm1 : 1 ≤ m := by omega
    have hm0 : ¬ m = 0 := by omega
    have hmb : (m : Int) ≤ 1048575 := by omega
    have hmp : (0 : Int) < (m : Int) + 1 := by omega
    have hmq : (1 : Int) ≤ (m : Int) + 1 := by omega
    clear h0 h1 hbig hpos
    by_cases h11 : (10 : Int) < m
    · have hs : ¬ Shape xs := by
        intro h; have := h.2.1; have h2 := HL.out; rw [hst] at this; simp at this; omega
      obtain ⟨rfl, rfl⟩ := HP.out.no hs
      have hd10 : decide ((m : Int) ≤ 10) = false := by simp; omega
      have hd1 : decide ((1 : Int) ≤ m) = true := by simp; omega
      clear hs HP HL HBY hcell hst hz
      go_wp2
      go_loop [7, 8] (fun s i => s = .bool false ∧ i = .int .i64 0) (fun _ _ => 0)
      case atStart => exact ⟨rfl, rfl⟩
      case round =>
        obtain ⟨rfl, rfl⟩ := hrel
        go_wp2
        go_ret
        exact ⟨rfl, hb1⟩
    have hd10 : decide ((m : Int) ≤ 10) = true := by simp; omega
    have hd1 : decide ((1 : Int) ≤ m) = true := by simp; omega
    obtain ⟨ds, hds⟩ : ∃ ds, xs.drop 1 = ds := ⟨_, rfl⟩
    have hdl : ds.length = m := by rw [← hds]; have := HL.out; simp; omega
    have HC : Hid (∀ i, i < m → W1.cell? ⟨g, 1 + i, none⟩ = some (.int .u8 (ds.getD i 0)) ∧ 0 ≤ ds.getD i 0 ∧ ds.getD i 0 ≤ 255) := fun i hi => by
      rw [← hds, getD_drop]; exact ⟨hcell (1 + i) (by omega), HBY.out (1 + i)⟩
    have HDL : Hid (ds.length = m) := hdl
    have HYES : Hid (Digs ds → ok = true ∧ v = -val ds) := fun h => by
      have hs : Shape xs := by unfold Shape; rw [hst, hds]; exact ⟨by omega, by omega, h⟩
      have := HP.out.yes hs
      unfold numOf at this
      rw [if_pos hst, hst, hds] at this
      exact this
    have HNO : Hid (¬ Digs ds → ok = false ∧ v = 0) := fun h => HP.out.no (by unfold Shape; rw [hst, hds]; exact fun h' => h h'.2.2)
    clear HP HL HBY hst hcell hds hdl hz
    go_wp2
    go_loop [7, 8] (fun s i => ∃ k : Nat, k ≤ m ∧ i = .int .i64 k ∧ ShapeRel ds k s) (fun _ i => m - (intOf i).toNat)
    case atStart => exact ⟨0, Nat.zero_le _, rfl, .inl ⟨by simp <;> omega, fun j hj => absurd hj (by omega)⟩⟩
    case round =>
      obtain ⟨k, hk, rfl, hsr⟩ := hrel
      rcases hsr with ⟨rfl, hdk⟩ | ⟨rfl, hnd⟩
      · have HDK : Hid (∀ j, j < k → 48 ≤ ds.getD j 0 ∧ ds.getD j 0 ≤ 57) := hdk
        clear hdk
        by_cases hlt : k < m
        · have hck := (HC.out k hlt).1
          have hbk := (HC.out k hlt).2
          obtain ⟨y, hy⟩ : ∃ y, ds.getD k 0 = y := ⟨_, rfl⟩
          rw [hy] at hck hbk
          have HK : Hid (ds.getD k 0 = y) := hy
          clear hy
          have hbad : (y < 48 ∨ 57 < y) → ShapeRel ds (k + 1) (.bool false) := fun hb => .inr ⟨rfl, fun h => by
            have := h.getD k (by rw [HDL.out]; exact hlt); rw [HK.out] at this; omega⟩
          have HBAD : Hid ((y < 48 ∨ 57 < y) → ShapeRel ds (k + 1) (.bool false)) := hbad
          clear hbad
          by_cases hb1' : y < 48
          · go_wp2
            go_round
            case rel => exact ⟨k + 1, by omega, by go_num, HBAD.out (.inl hb1')⟩
            case measure => simp [intOf]; omega
          by_cases hb2' : 57 < y
          · go_wp2
            go_round
            case rel => exact ⟨k + 1, by omega, by go_num, HBAD.out (.inr hb2')⟩
            case measure => simp [intOf]; omega
          go_wp2
          go_round
          case rel =>
            refine ⟨k + 1, by omega, by go_num, .inl ⟨by simp <;> omega, fun j hj => ?_⟩⟩
            by_cases hjk : j < k
            · exact HDK.out j hjk
            · obtain rfl : j = k := by omega
              rw [HK.out]; omega
          case measure => simp [intOf]; omega
        · obtain rfl : k = m := by omega
          have hD : Digs ds := Digs.of_getD (by rw [HDL.out]; exact HDK.out)
          obtain ⟨rfl, hv⟩ := HYES.out hD
          have HV : Hid (v = -val ds) := hv
          have HD : Hid (Digs ds) := hD
          have hvb := val_le ds (by rw [HDL.out]; omega) hD
          clear hD hv HYES HNO HDK
          go_wp2
          go_loop [9] (fun i => ∃ j : Nat, j < k ∧ i = .int .i64 j ∧ Hid (∀ i, i < j → ds.getD i 0 = 48)) (fun i => k - (intOf i).toNat)
          case atStart => exact ⟨0, by omega, rfl, fun j hj => absurd hj (by omega)⟩
          case round =>
            obtain ⟨j, hj, rfl, HZJ⟩ := hrel
            have hck := (HC.out j hj).1
            obtain ⟨y, hy⟩ : ∃ y, ds.getD j 0 = y := ⟨_, rfl⟩
            rw [hy] at hck
            have HY : Hid (ds.getD j 0 = y) := hy
            clear hy
            by_cases hexit : j + 1 < k ∧ y = 48
            · obtain ⟨he1, rfl⟩ := hexit
              have he1' : (j : Int) < k - 1 := by omega
              go_wp2
              go_round
              case rel =>
                refine ⟨j + 1, by omega, by go_num, fun i hi => ?_⟩
                by_cases hij : i < j
                · exact HZJ.out i hij
                · obtain rfl : i = j := by omega
                  exact HY.out
              case measure => simp [intOf]; omega
            · obtain ⟨core, hcore⟩ : ∃ core, ds.drop j = core := ⟨_, rfl⟩
              have hcl : core.length = k - j := by rw [← hcore]; simp [HDL.out]
              have hc0 : core.getD 0 0 = y := by rw [← hcore, getD_drop]; exact HY.out
              have hlead : core.length = 1 ∨ core.getD 0 0 ≠ 48 := by rw [hcl, hc0]; omega
              have hcd : Digs core := by rw [← hcore]; exact HD.out.drop j
              have hcv : val core = val ds := by rw [← hcore]; exact val_drop ds j (by rw [HDL.out]; omega) HZJ.out
              have hne : core ≠ [] := by intro h; rw [h] at hcl; simp at hcl; omega
              have hdec := dec_core core hcd hne hlead (by omega)
              have hzero := val_eq_zero core hcd hne hlead (by omega)
              rw [hcv] at hdec hzero
              have HCC : Hid (∀ i u, (core.map (Value.int .u8))[i]? = some u → W1.cell? ((⟨g, 1 + j, none⟩ : Addr).add i) = some u) := fun i u hu => by
                have hi : i < k - j := by
                  have := (List.getElem?_eq_some_iff.1 hu).1
                  simpa [hcl] using this
                have e1 := (HC.out (j + i) (by omega)).1
                rw [Addr.add_lit, Nat.add_assoc, e1, ← getD_drop, hcore, ← hu]
                simp [List.getD, hcl, hi]
              have HCL : Hid (core.length = k - j) := hcl
              have HDEC : Hid ((revD 20 (val ds).toNat).reverse = core) := hdec
              have HZERO : Hid (val ds = 0 → core = [48]) := hzero
              have HC0 : Hid (core.getD 0 0 = y) := hc0
              have HVC : Hid (val core = val ds) := hcv
              obtain ⟨i0, hi, hz0, hz1, hz2⟩ := info_parts Try.info5
              have HI : Hid (Try.prog.info? 5 = some i0 ∧ i0.zero = some (.int .u8 0) ∧ i0.size = 1 ∧ i0.bytes = 1) := ⟨hi, hz0, hz1, hz2⟩
              have hbW : w.heap.size ≤ W1.heap.size := hb1.size
              have hkj : ¬ k = j := by omega
              have hjk : (j : Int) ≤ k := by omega
              clear hcore hcl hc0 hlead hcd hcv hne hdec hzero hi hz0 hz1 hz2 HZJ HC
              by_cases hk1 : j + 1 < k
              · have hy48 : (y == 48) = false := beq_eq_false_iff_ne.2 (by omega)
                have hk1' : (j : Int) < k - 1 := by omega
                have hL1 : (((k - j : Nat) : Int) == 1) = false := beq_eq_false_iff_ne.2 (by omega)
                have hvn : val ds ≠ 0 := fun h => by
                  have h1 := HZERO.out h; have h2 := HCL.out; rw [h1] at h2; simp at h2; omega
                go_wp2_with (at_make; refine wpList_make_own _ rfl _ _ 22 rfl W1.heap.size 5 i0 (.int .u8 0) 1 Try.underlying22 HI.out.1 HI.out.2.1 HI.out.2.2.1 .i64 .i64 (((k - j : Nat) : Int) + 1) (k - j + 1) rfl rfl (by omega) (by rw [HI.out.2.2.2]; omega) (by unfold maxLen; omega) (Nat.le_refl _) ?_)
                intro W2 hown2 hgr2
                have hbA : Below W1.heap.size W1 W2 := (Below.refl _ _).grown hgr2 (Nat.le_refl _) (fun k h => by cases h)
                have hck2 : W2.cell? ⟨g, 1 + j, none⟩ = some (.int .u8 y) := (hbA.cell (by exact hgl)).trans hck
                have HOA : Hid (W2.ownsRow W1.heap.size 5 1 (.slice (some ⟨W1.heap.size, 0, none⟩) 0 (k - j + 1)) 0 (([] : List Int).map (Value.int .u8))) := hown2
                clear hgr2 hown2

                obtain ⟨g1, cap1, W3, hrun, ho, hb⟩ := append_lit W2 W1.heap.size _ 0 _ HOA.out _ [45] 0 rfl (by simp) (by simp) hbA.size
                have HA : Hid ((Builtin.append_ #[22, 22] 22 #[.slice (some ⟨W1.heap.size, 0, none⟩) 0 (k - j + 1), .slice (some ⟨W2.heap.size, 0, none⟩) 1 1]).run Try.prog (W2.alloc (.cells #[.int .u8 45] 5)) = .ok (.slice (some ⟨g1, 0, none⟩) 1 cap1) W3) := hrun
                have HOB : Hid (W3.ownsRow W1.heap.size 5 1 (.slice (some ⟨g1, 0, none⟩) 1 cap1) 1 (([45] : List Int).map (Value.int .u8))) := ho
                have hbB : Below W1.heap.size W1 W3 := hbA.trans hb
                clear hrun ho hb

                have hcellsX : ∀ i u, (core.map (Value.int .u8))[i]? = some u → W3.cell? ((⟨g, 1 + j, none⟩ : Addr).add i) = some u := fun i u hu => by
                  rw [hbB.cell (by rw [Addr.add_lit]; exact hgl)]; exact HCC.out i u hu
                obtain ⟨g2, cap2, W4, hrun2, ho2, _, _, hb2⟩ := append_byte W3 W1.heap.size 22 22 _ 1 _ HOB.out (.slice (some ⟨g, 1 + j, none⟩) (k - j) (k - j)) (k - j) (core.map (Value.int .u8)) (Src.ofSlice W3 Try.underlying22 ⟨g, 1 + j, none⟩ (k - j) (k - j) _ (by rw [List.length_map, HCL.out, Nat.mul_one]) hcellsX (ints_oneCell _ _)) (by omega) (by omega) hbB.size
                have HA2 : Hid ((Builtin.append_ #[22, 22] 22 #[.slice (some ⟨g1, 0, none⟩) 1 cap1, .slice (some ⟨g, 1 + j, none⟩) (k - j) (k - j)]).run Try.prog W3 = .ok (.slice (some ⟨g2, 0, none⟩) (1 + (k - j)) cap2) W4) := hrun2
                have hrow4 : Row .u8 W4 (some ⟨g2, 0, none⟩) ([45] ++ core) := by
                  rw [← List.map_append] at ho2
                  exact (ownsRow_row ho2).1
                have HR4 : Hid (Row .u8 W4 (some ⟨g2, 0, none⟩) ([45] ++ core)) := hrow4
                have hbC : Below w.heap.size w W4 := hb1.trans ((hbB.trans hb2).mono hbW)
                clear hrun2 ho2 hb2 hrow4 hcellsX
                go_wp2_with (first | (at_builtin; refine wpList_append_run rfl (.tmp 111) (.tmp 112) 22 22 rfl 22 rfl _ _ _ rfl rfl HA.out ?_) | (at_builtin; refine wpList_append_run rfl (.tmp 114) (.tmp 115) 22 22 rfl 22 rfl _ _ _ rfl rfl HA2.out ?_))

                refine (dec_neg_n v _ (by have := HV.out; omega) (by have := HV.out; omega) ([45] ++ core) (by rw [HV.out, Int.neg_neg, HDEC.out]; rfl) (1 + (k - j)) (by simp [HCL.out]; try omega)).mono ?_
                rintro e W5 ⟨g5, cap5, rfl, hrow5, hb5⟩
                have hbD : Below w.heap.size w W5 := hbC.trans (hb5.mono hbC.size)
                go_wp2_with fail
                refine (equal_same (some ⟨g5, 0, none⟩) (some ⟨g2, 0, none⟩) _ cap5 cap2 ([45] ++ core) (show ([45] ++ core : List Int).length = 1 + (k - j) by simp [HCL.out]; try omega) (by omega) W5 hrow5 (HR4.out.below hb5)).mono ?_
                rintro e W6 ⟨rfl, q, rfl⟩
                go_wp2
                go_ret
                exact ⟨rfl, below_drewN hbD q⟩
              · have hk1' : ¬ (j : Int) < k - 1 := by omega
                have hL1 : (((k - j : Nat) : Int) == 1) = true := beq_iff_eq.2 (by omega)
                by_cases hy48 : y = 48
                · subst hy48
                  have hcore : core = [48] := by
                    have h1 := HCL.out
                    have h2 := HC0.out
                    match core, h1, h2 with
                    | [c], _, h2 => simp at h2; rw [h2]
                    | [], h1, _ => simp at h1; omega
                    | _ :: _ :: _, h1, _ => simp at h1; omega
                  have hv0 : val ds = 0 := by
                    have h1 := HDEC.out
                    rw [hcore] at h1
                    have := HVC.out
                    rw [hcore] at this
                    rw [← this]; rfl
                  have HDEC0 : Hid ((revD 20 (-0 : Int).toNat).reverse = [] ++ core) := show _ = _ from by rw [hcore]; rfl
                  clear hcore
                  go_wp2_with (at_make; refine wpList_make_own _ rfl _ _ 22 rfl W1.heap.size 5 i0 (.int .u8 0) 1 Try.underlying22 HI.out.1 HI.out.2.1 HI.out.2.2.1 .i64 .i64 (((k - j : Nat) : Int) + 1) (k - j + 1) rfl rfl (by omega) (by rw [HI.out.2.2.2]; omega) (by unfold maxLen; omega) (Nat.le_refl _) ?_)
                  intro W2 hown2 hgr2
                  have hbA : Below W1.heap.size W1 W2 := (Below.refl _ _).grown hgr2 (Nat.le_refl _) (fun k h => by cases h)
                  have hck2 : W2.cell? ⟨g, 1 + j, none⟩ = some (.int .u8 48) := (hbA.cell (by exact hgl)).trans hck
                  have HOA : Hid (W2.ownsRow W1.heap.size 5 1 (.slice (some ⟨W1.heap.size, 0, none⟩) 0 (k - j + 1)) 0 (([] : List Int).map (Value.int .u8))) := hown2
                  clear hgr2 hown2

                  have hcellsX : ∀ i u, (core.map (Value.int .u8))[i]? = some u → W2.cell? ((⟨g, 1 + j, none⟩ : Addr).add i) = some u := fun i u hu => by
                    rw [hbA.cell (by rw [Addr.add_lit]; exact hgl)]; exact HCC.out i u hu
                  obtain ⟨g2, cap2, W4, hrun2, ho2, _, _, hb2⟩ := append_byte W2 W1.heap.size 22 22 _ 0 _ HOA.out (.slice (some ⟨g, 1 + j, none⟩) (k - j) (k - j)) (k - j) (core.map (Value.int .u8)) (Src.ofSlice W2 Try.underlying22 ⟨g, 1 + j, none⟩ (k - j) (k - j) _ (by rw [List.length_map, HCL.out, Nat.mul_one]) hcellsX (ints_oneCell _ _)) (by omega) (by omega) hbA.size
                  have HA2 : Hid ((Builtin.append_ #[22, 22] 22 #[.slice (some ⟨W1.heap.size, 0, none⟩) 0 (k - j + 1), .slice (some ⟨g, 1 + j, none⟩) (k - j) (k - j)]).run Try.prog W2 = .ok (.slice (some ⟨g2, 0, none⟩) (0 + (k - j)) cap2) W4) := hrun2
                  have hrow4 : Row .u8 W4 (some ⟨g2, 0, none⟩) ([] ++ core) := by
                    rw [← List.map_append] at ho2
                    exact (ownsRow_row ho2).1
                  have HR4 : Hid (Row .u8 W4 (some ⟨g2, 0, none⟩) ([] ++ core)) := hrow4
                  have hbC : Below w.heap.size w W4 := hb1.trans ((hbA.trans hb2).mono hbW)
                  clear hrun2 ho2 hb2 hrow4 hcellsX
                  go_wp2_with (first | (at_builtin; refine wpList_append_run rfl (.tmp 114) (.tmp 115) 22 22 rfl 22 rfl _ _ _ rfl rfl HA2.out ?_))

                  refine (dec_pos_n v _ (by have := HV.out; omega) (by have := HV.out; omega) ([] ++ core) (by rw [HV.out, hv0]; exact HDEC0.out) (k - j) (by simp [HCL.out])).mono ?_
                  rintro e W5 ⟨g5, cap5, rfl, hrow5, hb5⟩
                  have hbD : Below w.heap.size w W5 := hbC.trans (hb5.mono hbC.size)
                  go_wp2_with fail
                  refine (equal_same (some ⟨g5, 0, none⟩) (some ⟨g2, 0, none⟩) _ cap5 cap2 ([] ++ core) (show ([] ++ core : List Int).length = k - j by simp [HCL.out]; try omega) (by omega) W5 hrow5 (HR4.out.below hb5)).mono ?_
                  rintro e W6 ⟨rfl, q, rfl⟩
                  go_wp2
                  go_ret
                  exact ⟨rfl, below_drewN hbD q⟩
                · have hy48' : (y == 48) = false := beq_eq_false_iff_ne.2 hy48
                  have hvn : val ds ≠ 0 := fun h => by
                    have h1 := HZERO.out h; have h2 := HC0.out; rw [h1] at h2; simp at h2; omega
                  go_wp2_with (at_make; refine wpList_make_own _ rfl _ _ 22 rfl W1.heap.size 5 i0 (.int .u8 0) 1 Try.underlying22 HI.out.1 HI.out.2.1 HI.out.2.2.1 .i64 .i64 (((k - j : Nat) : Int) + 1) (k - j + 1) rfl rfl (by omega) (by rw [HI.out.2.2.2]; omega) (by unfold maxLen; omega) (Nat.le_refl _) ?_)
                  intro W2 hown2 hgr2
                  have hbA : Below W1.heap.size W1 W2 := (Below.refl _ _).grown hgr2 (Nat.le_refl _) (fun k h => by cases h)
                  have hck2 : W2.cell? ⟨g, 1 + j, none⟩ = some (.int .u8 y) := (hbA.cell (by exact hgl)).trans hck
                  have HOA : Hid (W2.ownsRow W1.heap.size 5 1 (.slice (some ⟨W1.heap.size, 0, none⟩) 0 (k - j + 1)) 0 (([] : List Int).map (Value.int .u8))) := hown2
                  clear hgr2 hown2

                  obtain ⟨g1, cap1, W3, hrun, ho, hb⟩ := append_lit W2 W1.heap.size _ 0 _ HOA.out _ [45] 0 rfl (by simp) (by simp) hbA.size
                  have HA : Hid ((Builtin.append_ #[22, 22] 22 #[.slice (some ⟨W1.heap.size, 0, none⟩) 0 (k - j + 1), .slice (some ⟨W2.heap.size, 0, none⟩) 1 1]).run Try.prog (W2.alloc (.cells #[.int .u8 45] 5)) = .ok (.slice (some ⟨g1, 0, none⟩) 1 cap1) W3) := hrun
                  have HOB : Hid (W3.ownsRow W1.heap.size 5 1 (.slice (some ⟨g1, 0, none⟩) 1 cap1) 1 (([45] : List Int).map (Value.int .u8))) := ho
                  have hbB : Below W1.heap.size W1 W3 := hbA.trans hb
                  clear hrun ho hb

                  have hcellsX : ∀ i u, (core.map (Value.int .u8))[i]? = some u → W3.cell? ((⟨g, 1 + j, none⟩ : Addr).add i) = some u := fun i u hu => by
                    rw [hbB.cell (by rw [Addr.add_lit]; exact hgl)]; exact HCC.out i u hu
                  obtain ⟨g2, cap2, W4, hrun2, ho2, _, _, hb2⟩ := append_byte W3 W1.heap.size 22 22 _ 1 _ HOB.out (.slice (some ⟨g, 1 + j, none⟩) (k - j) (k - j)) (k - j) (core.map (Value.int .u8)) (Src.ofSlice W3 Try.underlying22 ⟨g, 1 + j, none⟩ (k - j) (k - j) _ (by rw [List.length_map, HCL.out, Nat.mul_one]) hcellsX (ints_oneCell _ _)) (by omega) (by omega) hbB.size
                  have HA2 : Hid ((Builtin.append_ #[22, 22] 22 #[.slice (some ⟨g1, 0, none⟩) 1 cap1, .slice (some ⟨g, 1 + j, none⟩) (k - j) (k - j)]).run Try.prog W3 = .ok (.slice (some ⟨g2, 0, none⟩) (1 + (k - j)) cap2) W4) := hrun2
                  have hrow4 : Row .u8 W4 (some ⟨g2, 0, none⟩) ([45] ++ core) := by
                    rw [← List.map_append] at ho2
                    exact (ownsRow_row ho2).1
                  have HR4 : Hid (Row .u8 W4 (some ⟨g2, 0, none⟩) ([45] ++ core)) := hrow4
                  have hbC : Below w.heap.size w W4 := hb1.trans ((hbB.trans hb2).mono hbW)
                  clear hrun2 ho2 hb2 hrow4 hcellsX
                  go_wp2_with (first | (at_builtin; refine wpList_append_run rfl (.tmp 111) (.tmp 112) 22 22 rfl 22 rfl _ _ _ rfl rfl HA.out ?_) | (at_builtin; refine wpList_append_run rfl (.tmp 114) (.tmp 115) 22 22 rfl 22 rfl _ _ _ rfl rfl HA2.out ?_))

                  refine (dec_neg_n v _ (by have := HV.out; omega) (by have := HV.out; omega) ([45] ++ core) (by rw [HV.out, Int.neg_neg, HDEC.out]; rfl) (1 + (k - j)) (by simp [HCL.out]; try omega)).mono ?_
                  rintro e W5 ⟨g5, cap5, rfl, hrow5, hb5⟩
                  have hbD : Below w.heap.size w W5 := hbC.trans (hb5.mono hbC.size)
                  go_wp2_with fail
                  refine (equal_same (some ⟨g5, 0, none⟩) (some ⟨g2, 0, none⟩) _ cap5 cap2 ([45] ++ core) (show ([45] ++ core : List Int).length = 1 + (k - j) by simp [HCL.out]; try omega) (by omega) W5 hrow5 (HR4.out.below hb5)).mono ?_
                  rintro e W6 ⟨rfl, q, rfl⟩
                  go_wp2
                  go_ret
                  exact ⟨rfl, below_drewN hbD q⟩
      · obtain ⟨rfl, rfl⟩ := HNO.out hnd
        clear hnd HYES HNO HC
        go_wp2
        go_ret
        exact ⟨rfl, hb1⟩
  · have hst : startOf xs = 0 := by unfold startOf; rw [if_neg (fun h => hz h.2)]
    have hz' : (xs.getD 0 0 == 45) = false := beq_eq_false_iff_ne.2 hz
    obtain ⟨z, hzz⟩ : ∃ z, xs.getD 0 0 = z := ⟨_, rfl⟩
    rw [hzz] at hz' c0
    have hm1 : 1 ≤ len0 := by omega
    by_cases h11 : (10 : Int) < len0
    · have hs : ¬ Shape xs := by
        intro h; have := h.2.1; have h2 := HL.out; rw [hst] at this; simp at this; omega
      obtain ⟨rfl, rfl⟩ := HP.out.no hs
      have hd10 : decide ((len0 : Int) ≤ 10) = false := by simp; omega
      have hd1 : decide ((1 : Int) ≤ len0) = true := by simp; omega
      clear hs HP HL HBY hcell hst hz
      go_wp2
      go_loop [7, 8] (fun s i => s = .bool false ∧ i = .int .i64 0) (fun _ _ => 0)
      case atStart => exact ⟨rfl, rfl⟩
      case round =>
        obtain ⟨rfl, rfl⟩ := hrel
        go_wp2
        go_ret
        exact ⟨rfl, hb1⟩
    have hd10 : decide ((len0 : Int) ≤ 10) = true := by simp; omega
    have hd1 : decide ((1 : Int) ≤ len0) = true := by simp; omega
    obtain ⟨ds, hds⟩ : ∃ ds, xs.drop 0 = ds := ⟨_, rfl⟩
    have hdl : ds.length = len0 := by rw [← hds]; have := HL.out; simp; omega
    have HC : Hid (∀ i, i < len0 → W1.cell? ⟨g, i, none⟩ = some (.int .u8 (ds.getD i 0)) ∧ 0 ≤ ds.getD i 0 ∧ ds.getD i 0 ≤ 255) := fun i hi => by
      rw [← hds, getD_drop]; rw [Nat.zero_add]; exact ⟨hcell i (by omega), HBY.out i⟩
    have HDL : Hid (ds.length = len0) := hdl
    have HYES : Hid (Digs ds → ok = true ∧ v = val ds) := fun h => by
      have hs : Shape xs := by unfold Shape; rw [hst, hds]; exact ⟨by omega, by omega, h⟩
      have := HP.out.yes hs
      unfold numOf at this
      rw [if_neg (by omega), hst, hds] at this
      exact this
    have HNO : Hid (¬ Digs ds → ok = false ∧ v = 0) := fun h => HP.out.no (by unfold Shape; rw [hst, hds]; exact fun h' => h h'.2.2)
    clear HP HL HBY hst hcell hds hdl hz
    go_wp2
    go_loop [7, 8] (fun s i => ∃ k : Nat, k ≤ len0 ∧ i = .int .i64 k ∧ ShapeRel ds k s) (fun _ i => len0 - (intOf i).toNat)
    case atStart => exact ⟨0, Nat.zero_le _, rfl, .inl ⟨by simp <;> omega, fun j hj => absurd hj (by omega)⟩⟩
    case round =>
      obtain ⟨k, hk, rfl, hsr⟩ := hrel
      rcases hsr with ⟨rfl, hdk⟩ | ⟨rfl, hnd⟩
      · have HDK : Hid (∀ j, j < k → 48 ≤ ds.getD j 0 ∧ ds.getD j 0 ≤ 57) := hdk
        clear hdk
        by_cases hlt : k < len0
        · have hck := (HC.out k hlt).1
          have hbk := (HC.out k hlt).2
          obtain ⟨y, hy⟩ : ∃ y, ds.getD k 0 = y := ⟨_, rfl⟩
          rw [hy] at hck hbk
          have HK : Hid (ds.getD k 0 = y) := hy
          clear hy
          have hbad : (y < 48 ∨ 57 < y) → ShapeRel ds (k + 1) (.bool false) := fun hb => .inr ⟨rfl, fun h => by
            have := h.getD k (by rw [HDL.out]; exact hlt); rw [HK.out] at this; omega⟩
          have HBAD : Hid ((y < 48 ∨ 57 < y) → ShapeRel ds (k + 1) (.bool false)) := hbad
          clear hbad
          by_cases hb1' : y < 48
          · go_wp2
            go_round
            case rel => exact ⟨k + 1, by omega, by go_num, HBAD.out (.inl hb1')⟩
            case measure => simp [intOf]; omega
          by_cases hb2' : 57 < y
          · go_wp2
            go_round
            case rel => exact ⟨k + 1, by omega, by go_num, HBAD.out (.inr hb2')⟩
            case measure => simp [intOf]; omega
          go_wp2
          go_round
          case rel =>
            refine ⟨k + 1, by omega, by go_num, .inl ⟨by simp <;> omega, fun j hj => ?_⟩⟩
            by_cases hjk : j < k
            · exact HDK.out j hjk
            · obtain rfl : j = k := by omega
              rw [HK.out]; omega
          case measure => simp [intOf]; omega
        · obtain rfl : k = len0 := by omega
          have hD : Digs ds := Digs.of_getD (by rw [HDL.out]; exact HDK.out)
          obtain ⟨rfl, hv⟩ := HYES.out hD
          have HV : Hid (v = val ds) := hv
          have HD : Hid (Digs ds) := hD
          have hvb := val_le ds (by rw [HDL.out]; omega) hD
          clear hD hv HYES HNO HDK
          go_wp2
          go_loop [9] (fun i => ∃ j : Nat, j < k ∧ i = .int .i64 j ∧ Hid (∀ i, i < j → ds.getD i 0 = 48)) (fun i => k - (intOf i).toNat)
          case atStart => exact ⟨0, by omega, rfl, fun j hj => absurd hj (by omega)⟩
          case round =>
            obtain ⟨j, hj, rfl, HZJ⟩ := hrel
            have hck := (HC.out j hj).1
            obtain ⟨y, hy⟩ : ∃ y, ds.getD j 0 = y := ⟨_, rfl⟩
            rw [hy] at hck
            have HY : Hid (ds.getD j 0 = y) := hy
            clear hy
            by_cases hexit : j + 1 < k ∧ y = 48
            · obtain ⟨he1, rfl⟩ := hexit
              have he1' : (j : Int) < k - 1 := by omega
              go_wp2
              go_round
              case rel =>
                refine ⟨j + 1, by omega, by go_num, fun i hi => ?_⟩
                by_cases hij : i < j
                · exact HZJ.out i hij
                · obtain rfl : i = j := by omega
                  exact HY.out
              case measure => simp [intOf]; omega
            · obtain ⟨core, hcore⟩ : ∃ core, ds.drop j = core := ⟨_, rfl⟩
              have hcl : core.length = k - j := by rw [← hcore]; simp [HDL.out]
              have hc0 : core.getD 0 0 = y := by rw [← hcore, getD_drop]; exact HY.out
              have hlead : core.length = 1 ∨ core.getD 0 0 ≠ 48 := by rw [hcl, hc0]; omega
              have hcd : Digs core := by rw [← hcore]; exact HD.out.drop j
              have hcv : val core = val ds := by rw [← hcore]; exact val_drop ds j (by rw [HDL.out]; omega) HZJ.out
              have hne : core ≠ [] := by intro h; rw [h] at hcl; simp at hcl; omega
              have hdec := dec_core core hcd hne hlead (by omega)
              have hzero := val_eq_zero core hcd hne hlead (by omega)
              rw [hcv] at hdec hzero
              have HCC : Hid (∀ i u, (core.map (Value.int .u8))[i]? = some u → W1.cell? ((⟨g, j, none⟩ : Addr).add i) = some u) := fun i u hu => by
                have hi : i < k - j := by
                  have := (List.getElem?_eq_some_iff.1 hu).1
                  simpa [hcl] using this
                have e1 := (HC.out (j + i) (by omega)).1
                rw [Addr.add_lit, e1, ← getD_drop, hcore, ← hu]
                simp [List.getD, hcl, hi]
              have HCL : Hid (core.length = k - j) := hcl
              have HDEC : Hid ((revD 20 (val ds).toNat).reverse = core) := hdec
              have HZERO : Hid (val ds = 0 → core = [48]) := hzero
              have HC0 : Hid (core.getD 0 0 = y) := hc0
              have HVC : Hid (val core = val ds) := hcv
              obtain ⟨i0, hi, hz0, hz1, hz2⟩ := info_parts Try.info5
              have HI : Hid (Try.prog.info? 5 = some i0 ∧ i0.zero = some (.int .u8 0) ∧ i0.size = 1 ∧ i0.bytes = 1) := ⟨hi, hz0, hz1, hz2⟩
              have hbW : w.heap.size ≤ W1.heap.size := hb1.size
              have hkj : ¬ k = j := by omega
              have hjk : (j : Int) ≤ k := by omega
              clear hcore hcl hc0 hlead hcd hcv hne hdec hzero hi hz0 hz1 hz2 HZJ HC
              by_cases hk1 : j + 1 < k
              · have hy48 : (y == 48) = false := beq_eq_false_iff_ne.2 (by omega)
                have hk1' : (j : Int) < k - 1 := by omega
                go_wp2_with (at_make; refine wpList_make_own _ rfl _ _ 22 rfl W1.heap.size 5 i0 (.int .u8 0) 1 Try.underlying22 HI.out.1 HI.out.2.1 HI.out.2.2.1 .i64 .i64 (((k - j : Nat) : Int) + 1) (k - j + 1) rfl rfl (by omega) (by rw [HI.out.2.2.2]; omega) (by unfold maxLen; omega) (Nat.le_refl _) ?_)
                intro W2 hown2 hgr2
                have hbA : Below W1.heap.size W1 W2 := (Below.refl _ _).grown hgr2 (Nat.le_refl _) (fun k h => by cases h)
                have hck2 : W2.cell? ⟨g, j, none⟩ = some (.int .u8 y) := (hbA.cell (by exact hgl)).trans hck
                have HOA : Hid (W2.ownsRow W1.heap.size 5 1 (.slice (some ⟨W1.heap.size, 0, none⟩) 0 (k - j + 1)) 0 (([] : List Int).map (Value.int .u8))) := hown2
                clear hgr2 hown2

                have hcellsX : ∀ i u, (core.map (Value.int .u8))[i]? = some u → W2.cell? ((⟨g, j, none⟩ : Addr).add i) = some u := fun i u hu => by
                  rw [hbA.cell (by rw [Addr.add_lit]; exact hgl)]; exact HCC.out i u hu
                obtain ⟨g2, cap2, W4, hrun2, ho2, _, _, hb2⟩ := append_byte W2 W1.heap.size 22 22 _ 0 _ HOA.out (.slice (some ⟨g, j, none⟩) (k - j) (k - j)) (k - j) (core.map (Value.int .u8)) (Src.ofSlice W2 Try.underlying22 ⟨g, j, none⟩ (k - j) (k - j) _ (by rw [List.length_map, HCL.out, Nat.mul_one]) hcellsX (ints_oneCell _ _)) (by omega) (by omega) hbA.size
                have HA2 : Hid ((Builtin.append_ #[22, 22] 22 #[.slice (some ⟨W1.heap.size, 0, none⟩) 0 (k - j + 1), .slice (some ⟨g, j, none⟩) (k - j) (k - j)]).run Try.prog W2 = .ok (.slice (some ⟨g2, 0, none⟩) (0 + (k - j)) cap2) W4) := hrun2
                have hrow4 : Row .u8 W4 (some ⟨g2, 0, none⟩) ([] ++ core) := by
                  rw [← List.map_append] at ho2
                  exact (ownsRow_row ho2).1
                have HR4 : Hid (Row .u8 W4 (some ⟨g2, 0, none⟩) ([] ++ core)) := hrow4
                have hbC : Below w.heap.size w W4 := hb1.trans ((hbA.trans hb2).mono hbW)
                clear hrun2 ho2 hb2 hrow4 hcellsX
                go_wp2_with (first | (at_builtin; refine wpList_append_run rfl (.tmp 114) (.tmp 115) 22 22 rfl 22 rfl _ _ _ rfl rfl HA2.out ?_))

                refine (dec_pos_n v _ (by have := HV.out; omega) (by have := HV.out; omega) ([] ++ core) (by rw [HV.out, HDEC.out]; rfl) (k - j) (by simp [HCL.out])).mono ?_
                rintro e W5 ⟨g5, cap5, rfl, hrow5, hb5⟩
                have hbD : Below w.heap.size w W5 := hbC.trans (hb5.mono hbC.size)
                go_wp2_with fail
                refine (equal_same (some ⟨g5, 0, none⟩) (some ⟨g2, 0, none⟩) _ cap5 cap2 ([] ++ core) (show ([] ++ core : List Int).length = k - j by simp [HCL.out]; try omega) (by omega) W5 hrow5 (HR4.out.below hb5)).mono ?_
                rintro e W6 ⟨rfl, q, rfl⟩
                go_wp2
                go_ret
                exact ⟨rfl, below_drewN hbD q⟩
              · have hk1' : ¬ (j : Int) < k - 1 := by omega
                go_wp2_with (at_make; refine wpList_make_own _ rfl _ _ 22 rfl W1.heap.size 5 i0 (.int .u8 0) 1 Try.underlying22 HI.out.1 HI.out.2.1 HI.out.2.2.1 .i64 .i64 (((k - j : Nat) : Int) + 1) (k - j + 1) rfl rfl (by omega) (by rw [HI.out.2.2.2]; omega) (by unfold maxLen; omega) (Nat.le_refl _) ?_)
                intro W2 hown2 hgr2
                have hbA : Below W1.heap.size W1 W2 := (Below.refl _ _).grown hgr2 (Nat.le_refl _) (fun k h => by cases h)
                have hck2 : W2.cell? ⟨g, j, none⟩ = some (.int .u8 y) := (hbA.cell (by exact hgl)).trans hck
                have HOA : Hid (W2.ownsRow W1.heap.size 5 1 (.slice (some ⟨W1.heap.size, 0, none⟩) 0 (k - j + 1)) 0 (([] : List Int).map (Value.int .u8))) := hown2
                clear hgr2 hown2

                have hcellsX : ∀ i u, (core.map (Value.int .u8))[i]? = some u → W2.cell? ((⟨g, j, none⟩ : Addr).add i) = some u := fun i u hu => by
                  rw [hbA.cell (by rw [Addr.add_lit]; exact hgl)]; exact HCC.out i u hu
                obtain ⟨g2, cap2, W4, hrun2, ho2, _, _, hb2⟩ := append_byte W2 W1.heap.size 22 22 _ 0 _ HOA.out (.slice (some ⟨g, j, none⟩) (k - j) (k - j)) (k - j) (core.map (Value.int .u8)) (Src.ofSlice W2 Try.underlying22 ⟨g, j, none⟩ (k - j) (k - j) _ (by rw [List.length_map, HCL.out, Nat.mul_one]) hcellsX (ints_oneCell _ _)) (by omega) (by omega) hbA.size
                have HA2 : Hid ((Builtin.append_ #[22, 22] 22 #[.slice (some ⟨W1.heap.size, 0, none⟩) 0 (k - j + 1), .slice (some ⟨g, j, none⟩) (k - j) (k - j)]).run Try.prog W2 = .ok (.slice (some ⟨g2, 0, none⟩) (0 + (k - j)) cap2) W4) := hrun2
                have hrow4 : Row .u8 W4 (some ⟨g2, 0, none⟩) ([] ++ core) := by
                  rw [← List.map_append] at ho2
                  exact (ownsRow_row ho2).1
                have HR4 : Hid (Row .u8 W4 (some ⟨g2, 0, none⟩) ([] ++ core)) := hrow4
                have hbC : Below w.heap.size w W4 := hb1.trans ((hbA.trans hb2).mono hbW)
                clear hrun2 ho2 hb2 hrow4 hcellsX
                go_wp2_with (first | (at_builtin; refine wpList_append_run rfl (.tmp 114) (.tmp 115) 22 22 rfl 22 rfl _ _ _ rfl rfl HA2.out ?_))

                refine (dec_pos_n v _ (by have := HV.out; omega) (by have := HV.out; omega) ([] ++ core) (by rw [HV.out, HDEC.out]; rfl) (k - j) (by simp [HCL.out])).mono ?_
                rintro e W5 ⟨g5, cap5, rfl, hrow5, hb5⟩
                have hbD : Below w.heap.size w W5 := hbC.trans (hb5.mono hbC.size)
                go_wp2_with fail
                refine (equal_same (some ⟨g5, 0, none⟩) (some ⟨g2, 0, none⟩) _ cap5 cap2 ([] ++ core) (show ([] ++ core : List Int).length = k - j by simp [HCL.out]; try omega) (by omega) W5 hrow5 (HR4.out.below hb5)).mono ?_
                rintro e W6 ⟨rfl, q, rfl⟩
                go_wp2
                go_ret
                exact ⟨rfl, below_drewN hbD q⟩
      · obtain ⟨rfl, rfl⟩ := HNO.out hnd
        clear hnd HYES HNO HC
        go_wp2
        go_ret
        exact ⟨rfl, hb1⟩

end Go.Proofs.Qxb6605347a
