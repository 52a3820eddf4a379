/- The walk of FnAppendEscapeExact. -/
import Derived.Test.Qxb6605303aEsc2
import Derived.OpenShut
namespace Go.Proofs.Qxb6605303a
open Go.RowKit
set_option linter.unusedVariables false

theorem owned_cells {k : IntKind} {w : World} {base : Nat} {e : TypeId} {g n cap : Nat} {zs : List Int} (h : w.ownsRow base e 1 (.slice (some ⟨g, 0, none⟩) n cap) n (zs.map (Value.int k))) :
    zs.length = n ∧ n ≤ cap ∧ ∀ i, i < n → w.cell? ⟨g, i, none⟩ = some (.int k (zs.getD i 0)) := by
  have hl : zs.length = n := by simpa using h.1
  refine ⟨hl, ?_, fun i hi => ?_⟩
  · rcases h.2 with ⟨h1, h2⟩ | ⟨g', cp, cur, hv, hb, hg, hn, hm, hcs, htake⟩
    · simp at h1
    · simp only [Value.slice.injEq, true_and] at hv
      omega
  · have := h.cellAt i (by omega)
    rw [this]
    simp [List.getD, hl, hi]

theorem getD_left (xs ys : List Int) (i : Nat) (h : i < xs.length) : (xs ++ ys).getD i 0 = xs.getD i 0 := by
  simp [List.getD, List.getElem?_append_left h]
theorem getD_right (xs ys : List Int) (i : Nat) : (xs ++ ys).getD (xs.length + i) 0 = ys.getD i 0 := by
  simp [List.getD, List.getElem?_append_right]

theorem InRow.wf {k : IntKind} {w : World} {a : Option Addr} {len cap : Nat} {zs : List Int} (h : InRow k w a len cap zs) : ∀ n ∈ zs.take len, (Lit.int k n).wf = true := by
  intro n hn
  rcases h with ⟨rfl, rfl, rfl, rfl⟩ | ⟨x, rfl, hl, hm, hz, hc, hw⟩
  · simp at hn
  · exact hw n (List.mem_of_mem_take hn)

set_option maxRecDepth 100000 in
theorem exact_walk (a0 : Option Addr) (len0 cap0 : Nat) (z0 : List Int) (a1 : Int) (w : World) (w0 : InRow .u8 w a0 len0 cap0 z0) (w1 : (Lit.int .i32 a1).wf = true) :
    Calls Try.prog 3 #[.slice a0 len0 cap0, .int .i32 a1] w fun e w' => e = .returned (.bool true) ∧ Below w.heap.size w w' := by
  have b1 := bounds_i32 w1
  clear w1
  by_cases hbig : (1048576 : Int) < len0
  · clear w0
    go_enter Try.func3, Try.ntmps3
    go_wp2
    go_ret
    exact ⟨rfl, Below.refl _ _⟩
  by_cases h1 : a1 < 0
  · clear w0
    go_enter Try.func3, Try.ntmps3
    go_wp2
    go_ret
    exact ⟨rfl, Below.refl _ _⟩
  by_cases h2 : 65535 < a1
  · clear w0
    go_enter Try.func3, Try.ntmps3
    go_wp2
    go_ret
    exact ⟨rfl, Below.refl _ _⟩
  obtain ⟨r, rfl⟩ := Int.eq_ofNat_of_zero_le (show 0 ≤ a1 by omega)
  have hwf := w0.wf
  have HW : Hid (InRow .u8 w a0 len0 cap0 z0) := w0
  obtain ⟨zs, hzs⟩ : ∃ zs, z0.take len0 = zs := ⟨_, rfl⟩
  have HZ : Hid (z0.take len0 = zs) := hzs
  rw [hzs] at hwf
  have HF : Hid (∀ n ∈ zs, (Lit.int .u8 n).wf = true) := hwf
  clear w0 hzs hwf
  go_enter Try.func3, Try.ntmps3
  go_wp2_with (first | (go_at_call 7; go_in))
  refine (clone_any a0 len0 cap0 z0 w HW.out (by omega)).mono ?_
  rintro e W1 ⟨v1, rfl, hown1, hb1⟩
  rw [HZ.out] at hown1
  obtain ⟨hr1, hl1⟩ := ownsRow_row hown1
  have HO1 : Hid (InRow .u8 W1 v1 len0 len0 zs) := owns_in hown1 HF.out
  have HR1 : Hid (Row .u8 W1 v1 zs) := hr1
  have HL : Hid (zs.length = len0) := hl1
  have HT : Hid (zs.take len0 = zs) := List.take_of_length_le (by omega)
  clear hown1 hr1 hl1 HF HZ HW
  go_wp2_with fail
  refine (clone_any v1 len0 len0 zs W1 HO1.out (by omega)).mono ?_
  rintro e W2 ⟨v2, rfl, hown2, hb2⟩
  rw [HT.out] at hown2
  have HR2 : Hid (Row .u8 W2 v1 zs) := HR1.out.below hb2
  have hbase := hb2.size
  go_wp2_with fail
  obtain ⟨m, hmd⟩ : ∃ m, (esc r).length = m := ⟨_, rfl⟩
  have hm := esc_len r (by omega)
  rw [hmd] at hm
  have HM : Hid ((esc r).length = m) := hmd
  clear hmd
  refine (appEsc' W2 W1.heap.size (.slice v2 len0 len0) len0 zs hown2 (by omega) hbase _ r rfl (by omega) m HM.out).mono ?_
  rintro e W3 ⟨g, cap, rfl, hown3, hb3⟩
  obtain ⟨hlx, hcap, hcells⟩ := owned_cells hown3
  have HR3 : Hid (Row .u8 W3 v1 zs) := HR1.out.below (hb2.trans hb3)
  have hbel : Below w.heap.size w W3 := hb1.trans ((hb2.trans hb3).mono hb1.size)
  have hlen := HL.out
  have HP : Hid (Row .u8 W3 (some ⟨g, 0, none⟩) zs) := .inr ⟨g, 0, rfl, fun i hi => by rw [Nat.zero_add, hcells i (by omega), getD_left _ _ _ hi]⟩
  have HE : Hid (∀ i, i < m → W3.cell? ⟨g, len0 + (0 + i), none⟩ = some (.int .u8 ((esc r).getD i 0))) := fun i hi => by
    rw [Nat.zero_add, hcells (len0 + i) (by omega), ← hlen, getD_right]
  clear hown2 hown3 hb1 hb2 hb3 hcells hlx HR1 HR2 HO1 HT hbase hlen
  have hcl : ¬ cap = len0 := by omega
  go_wp2_with fail
  refine (equal_same (some ⟨g, 0, none⟩) v1 len0 cap len0 zs HL.out (by omega) W3 HP.out HR3.out).mono ?_
  rintro e W4 ⟨rfl, q, rfl⟩
  go_wp2_with fail
  refine (shortEsc' r (by omega) m HM.out _).mono ?_
  rintro e W4 ⟨rfl, rfl⟩
  have hbel2 := below_drewN hbel q
  rcases hm with rfl | rfl
  · go_wp2_with fail
    refine (decode' g len0 2 (cap - len0) 0 r 0 rfl (by omega) (W3.drewN q) (by omega) 2 HM.out (by omega) (fun i hi => HE.out i hi)).mono ?_
    rintro e W5 ⟨rfl, rfl⟩
    go_wp2
    go_ret
    exact ⟨rfl, hbel2⟩
  · go_wp2_with fail
    refine (decode' g len0 6 (cap - len0) 0 r 0 rfl (by omega) (W3.drewN q) (by omega) 6 HM.out (by omega) (fun i hi => HE.out i hi)).mono ?_
    rintro e W5 ⟨rfl, rfl⟩
    go_wp2
    go_ret
    exact ⟨rfl, hbel2⟩

end Go.Proofs.Qxb6605303a
