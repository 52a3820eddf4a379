/- The walk of lawDecimal. -/
import Derived.Test.Qxb6605347aParse
namespace Go.Proofs.Qxb6605347a
open Go.RowKit
set_option linter.unusedVariables false

/-- The array 'rev' in its block holds the digits L; what was there before has not turned. -/
def RevW (w wr : World) (L : List Int) : Prop :=
  Below w.heap.size w wr ∧ w.heap.size < wr.heap.size ∧ (∀ i, i < 20 → ∃ v, wr.cell? ⟨w.heap.size, i, none⟩ = some v) ∧ (∀ i, wr.frozen? ⟨w.heap.size, i, none⟩ = false) ∧
  ∀ i, i < L.length → wr.cell? ⟨w.heap.size, i, none⟩ = some (.int .u8 (L.getD i 0))

theorem RevW.start (w : World) : RevW w (w.alloc (Obj.cells #[Value.int IntKind.u8 0, Value.int IntKind.u8 0, Value.int IntKind.u8 0, Value.int IntKind.u8 0,
      Value.int IntKind.u8 0, Value.int IntKind.u8 0, Value.int IntKind.u8 0, Value.int IntKind.u8 0,
      Value.int IntKind.u8 0, Value.int IntKind.u8 0, Value.int IntKind.u8 0, Value.int IntKind.u8 0,
      Value.int IntKind.u8 0, Value.int IntKind.u8 0, Value.int IntKind.u8 0, Value.int IntKind.u8 0,
      Value.int IntKind.u8 0, Value.int IntKind.u8 0, Value.int IntKind.u8 0, Value.int IntKind.u8 0] 32)) [] := by
  refine ⟨(Below.refl _ _).alloc (Nat.le_refl _) _, by simp, fun i hi => ?_, fun i => ?_, fun i hi => by simp at hi⟩
  · rw [World.cell?_alloc_at _ _ _ _ rfl]
    exact ⟨_, Array.getElem?_eq_getElem (by simpa using hi)⟩
  · exact World.frozen?_alloc_at _ _ _ _ rfl

theorem RevW.store {w wr : World} {L : List Int} (h : RevW w wr L) (hl : L.length < 20) (y : Int) : RevW w (wr.setCell ⟨w.heap.size, L.length, none⟩ (.int .u8 y)) (L ++ [y]) := by
  obtain ⟨h1, h2, h3, h4, h5⟩ := h
  refine ⟨h1.setCell (Nat.le_refl _) _, by simpa using h2, fun i hi => ?_, fun i => by rw [World.frozen?_setCell]; exact h4 i, fun i hi => ?_⟩
  · by_cases hil : i = L.length
    · subst hil
      obtain ⟨v, hv⟩ := h3 L.length hi
      exact ⟨_, World.cell?_setCell_same _ _ _ hv⟩
    · rw [World.cell?_setCell_other _ _ _ _ (by intro h; simp at h <;> omega)]
      exact h3 i hi
  · by_cases hil : i = L.length
    · subst hil
      obtain ⟨v, hv⟩ := h3 L.length hl
      rw [World.cell?_setCell_same _ _ _ hv]
      simp [List.getD]
    · have hi' : i < L.length := by simp at hi; omega
      rw [World.cell?_setCell_other _ _ _ _ (by intro h; simp at h <;> omega), h5 i hi']
      simp [List.getD, List.getElem?_append_left hi']

theorem RevW.later {w wr wr' : World} {L : List Int} (h : RevW w wr L) (hb : Below (w.heap.size + 1) wr wr') : RevW w wr' L := by
  obtain ⟨h1, h2, h3, h4, h5⟩ := h
  refine ⟨h1.trans (hb.mono (by omega)), Nat.lt_of_lt_of_le h2 hb.size, fun i hi => ?_, fun i => ?_, fun i hi => ?_⟩
  · rw [hb.cell (by show w.heap.size < _; omega)]; exact h3 i hi
  · rw [hb.frozen (by show w.heap.size < _; omega)]; exact h4 i
  · rw [hb.cell (by show w.heap.size < _; omega)]; exact h5 i hi

/-- What a call of lawDecimal leaves: the text T, readable. -/
def DecPost (T : List Int) (w : World) (e : Ending) (w' : World) : Prop :=
  ∃ g cap, e = .returned (.slice (some ⟨g, 0, none⟩) T.length cap) ∧ Row .u8 w' (some ⟨g, 0, none⟩) T ∧ Below w.heap.size w w'

/-- The state of the first loop. -/
def Digiting (M : Nat) (L : List Int) (m : Nat) : Prop := revD 20 M = L ++ revD (20 - L.length) m ∧ m < 10 ^ (10 - L.length) ∧ (L = [] ∨ m ≠ 0)

theorem Digiting.lt {M : Nat} {L : List Int} {m : Nat} (h : Digiting M L m) : L.length < 10 := by
  rcases Nat.lt_or_ge L.length 10 with h1 | h1
  · exact h1
  · have h2 := h.2.1
    rw [show 10 - L.length = 0 by omega] at h2
    rcases h.2.2 with h3 | h3
    · rw [h3] at h1; simp at h1
    · simp at h2; omega
theorem Digiting.last {M : Nat} {L : List Int} {m : Nat} (h : Digiting M L m) (h0 : m / 10 = 0) : revD 20 M = L ++ [48 + ((m % 10 : Nat) : Int)] := by
  have hl := h.lt
  have e : 20 - L.length = (19 - L.length) + 1 := by omega
  rw [h.1, e, revD_last _ _ h0]
theorem Digiting.next {M : Nat} {L : List Int} {m : Nat} (h : Digiting M L m) (h0 : m / 10 ≠ 0) : Digiting M (L ++ [48 + ((m % 10 : Nat) : Int)]) (m / 10) := by
  have hl := h.lt
  have e : 20 - L.length = (19 - L.length) + 1 := by omega
  refine ⟨?_, ?_, .inr h0⟩
  · rw [h.1, e, revD_more _ _ h0]
    simp [show 20 - (L.length + 1) = 19 - L.length by omega]
  · have h2 := h.2.1
    rw [show 10 - L.length = (9 - L.length) + 1 by omega, Nat.pow_succ] at h2
    simp only [List.length_append, List.length_cons, List.length_nil, Nat.zero_add]
    rw [show 10 - (L.length + 1) = 9 - L.length by omega]
    omega
theorem Digiting.start (M : Nat) (hM : M ≤ 9999999999) : Digiting M [] M := ⟨rfl, by simp; omega, .inl rfl⟩

theorem drop_rev (L : List Int) (j : Nat) (hj : j < L.length) : (L.drop j).reverse = (L.drop (j + 1)).reverse ++ [L.getD j 0] := by
  rw [List.drop_eq_getElem_cons hj]
  simp [List.getD, hj]

theorem dec_pos (M : Nat) (w : World) (hM : M ≤ 9999999999) (T : List Int) (hT : [] ++ (revD 20 M).reverse = T) :
    Calls Try.prog 9 #[.int .i64 (M : Int)] w (DecPost T w) := by
  have HT : Hid ([] ++ (revD 20 M).reverse = T) := hT
  clear hT
  have hneg : ¬ ((M : Int) < 0) := by omega
  obtain ⟨i0, hi, hz0, hz1, hz2⟩ := info_parts Try.info5
  have HI : Hid (Try.prog.info? 5 = some i0 ∧ i0.zero = some (.int .u8 0) ∧ i0.size = 1 ∧ i0.bytes = 1) := ⟨hi, hz0, hz1, hz2⟩
  clear hi hz0 hz1 hz2
  go_enter Try.func9, Try.ntmps9
  go_wp2
  go_loopw [4, 6] (fun mg i wr => ∃ (m k : Nat), mg = .int .u64 m ∧ i = .int .i64 k ∧ k < 10 ∧ m ≤ 9999999999 ∧ Hid (∃ L, Digiting M L m ∧ L.length = k ∧ RevW w wr L)) (fun mg _ _ => (intOf mg).toNat)
  case atStart => exact ⟨M, 0, rfl, rfl, by omega, hM, [], Digiting.start M hM, rfl, RevW.start w⟩
  case round =>
    obtain ⟨m, k, rfl, rfl, hk, hmb, HL⟩ := hrel
    obtain ⟨L, hdg, hlk, hrv⟩ := HL.out
    obtain ⟨v, hcv⟩ := hrv.2.2.1 k (by omega)
    have hfz := hrv.2.2.2.1 k
    have hsz := hrv.2.1
    have hst := hrv.store (by omega) (48 + ((m % 10 : Nat) : Int))
    rw [hlk] at hst
    obtain ⟨y, hy⟩ : ∃ y : Int, 48 + ((m % 10 : Nat) : Int) = y := ⟨_, rfl⟩
    have hyb : 48 ≤ y ∧ y ≤ 57 := by omega
    have hlast := fun h => hdg.last h
    have hnext := fun h => hdg.next h
    rw [hy] at hst
    simp only [hy] at hlast hnext
    have HY : Hid (48 + ((m % 10 : Nat) : Int) = y) := hy
    have HST : Hid (RevW w (wr.setCell ⟨w.heap.size, k, none⟩ (.int .u8 y)) (L ++ [y])) := hst
    have HLAST : Hid (m / 10 = 0 → revD 20 M = L ++ [y]) := hlast
    have HNEXT : Hid (m / 10 ≠ 0 → Digiting M (L ++ [y]) (m / 10)) := hnext
    have HLK : Hid (L.length = k) := hlk
    have hy' : (48 : Int) + (m : Int) % 10 = y := by omega
    clear hdg hlk hrv hst hlast hnext hy HL
    by_cases h0 : m / 10 = 0
    · have hq : (((m : Int) / 10) == 0) = true := by simp; omega
      go_wp2_with (at_make; refine wpList_make_own _ rfl _ _ 22 rfl (w.heap.size + 1) 5 i0 (.int .u8 0) 1 Try.underlying22 HI.out.1 HI.out.2.1 HI.out.2.2.1 .i64 .i64 ((k : Int) + 1 + 1) (k + 2) rfl rfl (by omega) ?b1 ?b2 ?b3 ?_)
      case b1 => rw [HI.out.2.2.2]; omega
      case b2 => unfold maxLen; omega
      case b3 => simp; omega
      intro W2 hown2 hgr2
      have hb2 : Below (w.heap.size + 1) (wr.setCell ⟨w.heap.size, k, none⟩ (.int .u8 y)) W2 := (Below.refl _ _).grown hgr2 (by simp; omega) (fun k h => by cases h)
      have hrev := HLAST.out h0
      have hrl : (L ++ [y]).length = k + 1 := by simp [HLK.out]
      have hrw := HST.out.later hb2
      obtain ⟨R, hR⟩ : ∃ R, L ++ [y] = R := ⟨_, rfl⟩
      rw [hR] at hrev hrl hrw
      have HREV : Hid (revD 20 M = R) := hrev
      have HRL : Hid (R.length = k + 1) := hrl
      have hsz2 := hrw.2.1
      clear hb2 hgr2 hrev hrl hR HST HLAST HNEXT HLK HY hcv hfz hy' hyb
      have HO2 : Hid (W2.ownsRow (w.heap.size + 1) 5 1 (.slice (some ⟨wr.heap.size, 0, none⟩) 0 (k + 2)) (0 + (k + 1 - (k + 1))) (([] ++ ([] : List Int).reverse).map (Value.int .u8)) ∧ RevW w W2 R) := ⟨by simpa using hown2, hrw⟩
      clear hown2 hrw
      go_wp2
      go_loopw [6, 7] (fun i o wx => ∃ j : Nat, j ≤ k + 1 ∧ i = .int .i64 j ∧ Hid (wx.ownsRow (w.heap.size + 1) 5 1 o (0 + (k + 1 - j)) (([] ++ (R.drop j).reverse).map (Value.int .u8)) ∧ RevW w wx R)) (fun i _ _ => (intOf i).toNat)
      case atStart =>
        refine ⟨k + 1, Nat.le_refl _, by go_num, ?_⟩
        have e : R.drop (k + 1) = [] := List.drop_eq_nil_of_le (by rw [HRL.out]; exact Nat.le_refl _)
        rw [e]
        exact HO2.out
      case round =>
        obtain ⟨j, hj, rfl, HX⟩ := hrel
        cases j with
        | zero =>
          obtain ⟨hown, hrv⟩ := HX.out
          obtain ⟨g, cap, rfl, _, _⟩ := hown.form (by omega)
          have hT : ([] ++ (R.drop 0).reverse : List Int).length = 0 + (k + 1 - 0) := by simp [HRL.out]; try omega
          have hTT : [] ++ (R.drop 0).reverse = T := by rw [← HT.out, HREV.out, List.drop_zero]
          rw [hTT] at hT hown
          have HF : Hid (Row .u8 wr (some ⟨g, 0, none⟩) T ∧ Below w.heap.size w wr) := ⟨.inr ⟨g, 0, rfl, fun i hi => by rw [Nat.zero_add]; exact (owned_cells hown).2.2 i (by rw [← hT]; exact hi)⟩, hrv.1⟩
          have HTL : Hid (T.length = 0 + (k + 1 - 0)) := hT
          clear hown hrv HX hT HO2 hTT
          go_wp2
          go_ret
          exact ⟨g, cap, by rw [HTL.out]; rfl, HF.out⟩
        | succ j =>
          obtain ⟨hown, hrv⟩ := HX.out
          obtain ⟨q, hqq⟩ : ∃ q, 0 + (k + 1 - (j + 1)) = q := ⟨_, rfl⟩
          rw [hqq] at hown
          have hck := hrv.2.2.2.2 j (by rw [HRL.out]; omega)
          have hsx := hrv.2.1
          have hdr := drop_rev R j (by rw [HRL.out]; omega)
          obtain ⟨c, hc⟩ : ∃ c, R.getD j 0 = c := ⟨_, rfl⟩
          rw [hc] at hck hdr
          obtain ⟨g, cap, w1, hrun, ho, hb⟩ := append_lit wr (w.heap.size + 1) _ _ _ hown _ [c] 0 rfl (by simp) (by simp; omega) (by omega)
          obtain ⟨o, cap0, hform⟩ : ∃ a cp, u7 = .slice a q cp := by
            rcases hown.2 with ⟨h1, h2⟩ | ⟨g', cp, _, h1, _⟩
            · exact ⟨none, 0, by rw [h1, h2]⟩
            · exact ⟨_, _, h1⟩
          subst hform
          have HA : Hid ((Builtin.append_ #[22, 22] 22 #[.slice o q cap0, .slice (some ⟨wr.heap.size, 0, none⟩) 1 1]).run Try.prog (wr.alloc (.cells #[.int .u8 c] 5)) = .ok (.slice (some ⟨g, 0, none⟩) (q + 1) cap) w1) := hrun
          have hnn : q + 1 = 0 + (k + 1 - j) := by omega
          have HO : Hid (w1.ownsRow (w.heap.size + 1) 5 1 (.slice (some ⟨g, 0, none⟩) (q + 1) cap) (0 + (k + 1 - j)) (([] ++ (R.drop j).reverse).map (Value.int .u8)) ∧ RevW w w1 R) := by
            refine ⟨?_, hrv.later hb⟩
            rw [hdr, ← hnn, ← List.append_assoc, List.map_append]
            exact ho
          clear hown hrv hrun ho hb hdr hnn HX hc HO2 hqq
          go_wp2_with (first | (at_builtin; refine wpList_append_run rfl _ _ 22 22 rfl 22 rfl _ _ _ rfl rfl HA.out ?_))
          go_roundw
          case rel => exact ⟨j, by omega, by go_num, HO.out⟩
          case measure => simp [intOf]
    · have hq : (((m : Int) / 10) == 0) = false := by simp; omega
      go_wp2
      go_roundw
      case rel =>
        have hd := HNEXT.out h0
        have hl := hd.lt
        refine ⟨m / 10, k + 1, by go_num, by go_num, ?_, by omega, L ++ [y], hd, by simp [HLK.out], HST.out⟩
        simp [HLK.out] at hl
        omega
      case measure => simp [intOf]; omega

theorem dec_neg (N : Int) (M : Nat) (w : World) (hM : M ≤ 9999999999) (h1 : 1 ≤ M) (hN : N = -(M : Int)) (T : List Int) (hT : [45] ++ (revD 20 M).reverse = T) :
    Calls Try.prog 9 #[.int .i64 N] w (DecPost T w) := by
  have HT : Hid ([45] ++ (revD 20 M).reverse = T) := hT
  clear hT
  have hneg : N < 0 := by omega
  have hneg2 : -10000000000 ≤ N := by omega
  have HN : Hid (N = -(M : Int)) := hN
  clear hN
  obtain ⟨i0, hi, hz0, hz1, hz2⟩ := info_parts Try.info5
  have HI : Hid (Try.prog.info? 5 = some i0 ∧ i0.zero = some (.int .u8 0) ∧ i0.size = 1 ∧ i0.bytes = 1) := ⟨hi, hz0, hz1, hz2⟩
  clear hi hz0 hz1 hz2
  go_enter Try.func9, Try.ntmps9
  go_wp2
  go_loopw [4, 6] (fun mg i wr => ∃ (m k : Nat), mg = .int .u64 m ∧ i = .int .i64 k ∧ k < 10 ∧ m ≤ 9999999999 ∧ Hid (∃ L, Digiting M L m ∧ L.length = k ∧ RevW w wr L)) (fun mg _ _ => (intOf mg).toNat)
  case atStart => exact ⟨M, 0, by have := HN.out; go_num, rfl, by omega, hM, [], Digiting.start M hM, rfl, RevW.start w⟩
  case round =>
    obtain ⟨m, k, rfl, rfl, hk, hmb, HL⟩ := hrel
    obtain ⟨L, hdg, hlk, hrv⟩ := HL.out
    obtain ⟨v, hcv⟩ := hrv.2.2.1 k (by omega)
    have hfz := hrv.2.2.2.1 k
    have hsz := hrv.2.1
    have hst := hrv.store (by omega) (48 + ((m % 10 : Nat) : Int))
    rw [hlk] at hst
    obtain ⟨y, hy⟩ : ∃ y : Int, 48 + ((m % 10 : Nat) : Int) = y := ⟨_, rfl⟩
    have hyb : 48 ≤ y ∧ y ≤ 57 := by omega
    have hlast := fun h => hdg.last h
    have hnext := fun h => hdg.next h
    rw [hy] at hst
    simp only [hy] at hlast hnext
    have HY : Hid (48 + ((m % 10 : Nat) : Int) = y) := hy
    have HST : Hid (RevW w (wr.setCell ⟨w.heap.size, k, none⟩ (.int .u8 y)) (L ++ [y])) := hst
    have HLAST : Hid (m / 10 = 0 → revD 20 M = L ++ [y]) := hlast
    have HNEXT : Hid (m / 10 ≠ 0 → Digiting M (L ++ [y]) (m / 10)) := hnext
    have HLK : Hid (L.length = k) := hlk
    have hy' : (48 : Int) + (m : Int) % 10 = y := by omega
    clear hdg hlk hrv hst hlast hnext hy HL
    by_cases h0 : m / 10 = 0
    · have hq : (((m : Int) / 10) == 0) = true := by simp; omega
      go_wp2_with (at_make; refine wpList_make_own _ rfl _ _ 22 rfl (w.heap.size + 1) 5 i0 (.int .u8 0) 1 Try.underlying22 HI.out.1 HI.out.2.1 HI.out.2.2.1 .i64 .i64 ((k : Int) + 1 + 1) (k + 2) rfl rfl (by omega) ?b1 ?b2 ?b3 ?_)
      case b1 => rw [HI.out.2.2.2]; omega
      case b2 => unfold maxLen; omega
      case b3 => simp; omega
      intro W2 hown2 hgr2
      have hb2 : Below (w.heap.size + 1) (wr.setCell ⟨w.heap.size, k, none⟩ (.int .u8 y)) W2 := (Below.refl _ _).grown hgr2 (by simp; omega) (fun k h => by cases h)
      have hrev := HLAST.out h0
      have hrl : (L ++ [y]).length = k + 1 := by simp [HLK.out]
      have hrw := HST.out.later hb2
      obtain ⟨R, hR⟩ : ∃ R, L ++ [y] = R := ⟨_, rfl⟩
      rw [hR] at hrev hrl hrw
      have HREV : Hid (revD 20 M = R) := hrev
      have HRL : Hid (R.length = k + 1) := hrl
      have hsz2 := hrw.2.1
      clear hb2 hgr2 hrev hrl hR HST HLAST HNEXT HLK HY hcv hfz hy' hyb
      obtain ⟨g1, cap1, W3, hrun, ho, hb⟩ := append_lit W2 (w.heap.size + 1) _ 0 [] hown2 _ [45] 0 rfl (by simp) (by simp) (by omega)
      have HA : Hid ((Builtin.append_ #[22, 22] 22 #[.slice (some ⟨wr.heap.size, 0, none⟩) 0 (k + 2), .slice (some ⟨W2.heap.size, 0, none⟩) 1 1]).run Try.prog (W2.alloc (.cells #[.int .u8 45] 5)) = .ok (.slice (some ⟨g1, 0, none⟩) 1 cap1) W3) := hrun
      have HO2 : Hid (W3.ownsRow (w.heap.size + 1) 5 1 (.slice (some ⟨g1, 0, none⟩) 1 cap1) (1 + (k + 1 - (k + 1))) (([45] ++ ([] : List Int).reverse).map (Value.int .u8)) ∧ RevW w W3 R) := ⟨by simpa using ho, hrw.later hb⟩
      clear hrun ho hb hown2 hrw
      go_wp2_with (first | (at_builtin; refine wpList_append_run rfl _ _ 22 22 rfl 22 rfl _ _ _ rfl rfl HA.out ?_))
      go_loopw [6, 7] (fun i o wx => ∃ j : Nat, j ≤ k + 1 ∧ i = .int .i64 j ∧ Hid (wx.ownsRow (w.heap.size + 1) 5 1 o (1 + (k + 1 - j)) (([45] ++ (R.drop j).reverse).map (Value.int .u8)) ∧ RevW w wx R)) (fun i _ _ => (intOf i).toNat)
      case atStart =>
        refine ⟨k + 1, Nat.le_refl _, by go_num, ?_⟩
        have e : R.drop (k + 1) = [] := List.drop_eq_nil_of_le (by rw [HRL.out]; exact Nat.le_refl _)
        rw [e]
        exact HO2.out
      case round =>
        obtain ⟨j, hj, rfl, HX⟩ := hrel
        cases j with
        | zero =>
          obtain ⟨hown, hrv⟩ := HX.out
          obtain ⟨g, cap, rfl, _, _⟩ := hown.form (by omega)
          have hT : ([45] ++ (R.drop 0).reverse : List Int).length = 1 + (k + 1 - 0) := by simp [HRL.out]; try omega
          have hTT : [45] ++ (R.drop 0).reverse = T := by rw [← HT.out, HREV.out, List.drop_zero]
          rw [hTT] at hT hown
          have HF : Hid (Row .u8 wr (some ⟨g, 0, none⟩) T ∧ Below w.heap.size w wr) := ⟨.inr ⟨g, 0, rfl, fun i hi => by rw [Nat.zero_add]; exact (owned_cells hown).2.2 i (by rw [← hT]; exact hi)⟩, hrv.1⟩
          have HTL : Hid (T.length = 1 + (k + 1 - 0)) := hT
          clear hown hrv HX hT HO2 hTT
          go_wp2
          go_ret
          exact ⟨g, cap, by rw [HTL.out]; rfl, HF.out⟩
        | succ j =>
          obtain ⟨hown, hrv⟩ := HX.out
          obtain ⟨q, hqq⟩ : ∃ q, 1 + (k + 1 - (j + 1)) = q := ⟨_, rfl⟩
          rw [hqq] at hown
          have hck := hrv.2.2.2.2 j (by rw [HRL.out]; omega)
          have hsx := hrv.2.1
          have hdr := drop_rev R j (by rw [HRL.out]; omega)
          obtain ⟨c, hc⟩ : ∃ c, R.getD j 0 = c := ⟨_, rfl⟩
          rw [hc] at hck hdr
          obtain ⟨g, cap, w1, hrun, ho, hb⟩ := append_lit wr (w.heap.size + 1) _ _ _ hown _ [c] 0 rfl (by simp) (by simp; omega) (by omega)
          obtain ⟨o, cap0, hform⟩ : ∃ a cp, u7 = .slice a q cp := by
            rcases hown.2 with ⟨h1, h2⟩ | ⟨g', cp, _, h1, _⟩
            · exact ⟨none, 0, by rw [h1, h2]⟩
            · exact ⟨_, _, h1⟩
          subst hform
          have HA : Hid ((Builtin.append_ #[22, 22] 22 #[.slice o q cap0, .slice (some ⟨wr.heap.size, 0, none⟩) 1 1]).run Try.prog (wr.alloc (.cells #[.int .u8 c] 5)) = .ok (.slice (some ⟨g, 0, none⟩) (q + 1) cap) w1) := hrun
          have hnn : q + 1 = 1 + (k + 1 - j) := by omega
          have HO : Hid (w1.ownsRow (w.heap.size + 1) 5 1 (.slice (some ⟨g, 0, none⟩) (q + 1) cap) (1 + (k + 1 - j)) (([45] ++ (R.drop j).reverse).map (Value.int .u8)) ∧ RevW w w1 R) := by
            refine ⟨?_, hrv.later hb⟩
            rw [hdr, ← hnn, ← List.append_assoc, List.map_append]
            exact ho
          clear hown hrv hrun ho hb hdr hnn HX hc HO2 hqq
          go_wp2_with (first | (at_builtin; refine wpList_append_run rfl _ _ 22 22 rfl 22 rfl _ _ _ rfl rfl HA.out ?_))
          go_roundw
          case rel => exact ⟨j, by omega, by go_num, HO.out⟩
          case measure => simp [intOf]
    · have hq : (((m : Int) / 10) == 0) = false := by simp; omega
      go_wp2
      go_roundw
      case rel =>
        have hd := HNEXT.out h0
        have hl := hd.lt
        refine ⟨m / 10, k + 1, by go_num, by go_num, ?_, by omega, L ++ [y], hd, by simp [HLK.out], HST.out⟩
        simp [HLK.out] at hl
        omega
      case measure => simp [intOf]; omega

/-- The same, every argument a letter. -/
theorem dec_pos_n (N : Int) (w : World) (h0 : 0 ≤ N) (hM : N ≤ 9999999999) (T : List Int) (hT : (revD 20 N.toNat).reverse = T) (n : Nat) (hn : T.length = n) :
    Calls Try.prog 9 #[.int .i64 N] w fun e w' => ∃ g cap, e = .returned (.slice (some ⟨g, 0, none⟩) n cap) ∧ Row .u8 w' (some ⟨g, 0, none⟩) T ∧ Below w.heap.size w w' := by
  subst hn
  obtain ⟨M, rfl⟩ := Int.eq_ofNat_of_zero_le h0
  exact dec_pos M w (by omega) T (by simpa using hT)
theorem dec_neg_n (N : Int) (w : World) (h0 : N < 0) (hM : -9999999999 ≤ N) (T : List Int) (hT : 45 :: (revD 20 (-N).toNat).reverse = T) (n : Nat) (hn : T.length = n) :
    Calls Try.prog 9 #[.int .i64 N] w fun e w' => ∃ g cap, e = .returned (.slice (some ⟨g, 0, none⟩) n cap) ∧ Row .u8 w' (some ⟨g, 0, none⟩) T ∧ Below w.heap.size w w' := by
  subst hn
  exact dec_neg N (-N).toNat w (by omega) (by omega) (by omega) T (by simpa using hT)

end Go.Proofs.Qxb6605347a
