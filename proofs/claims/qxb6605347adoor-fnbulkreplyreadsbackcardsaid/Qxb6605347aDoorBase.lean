/- What this seat's walks share: one append onto an owned row of bytes; the clone; the comparison. -/
import Derived.Test.Qxb6605347aDoorProg
import Derived.Test.Qxb6605347aDoorApp
import Derived.Deep.QuietTactic
import Derived.BigQuiet
import Derived.Outline
import Derived.OpenShut
import Derived.WalkLawsBesides
namespace Go.Proofs.Qxb6605347aDoor
open Go.RowKit
set_option linter.unusedVariables false

theorem Tryd.info5 : (Tryd.prog.info? 5).map (fun i => (i.zero, i.size, i.bytes)) = some (some (.int .u8 0), 1, 1) := by kernel_rfl

/-- One append onto an owned row of bytes. -/
theorem append_byte (w : World) (base : Nat) (tx ty : TypeId) (v : Value) (n : Nat) (xs : List Value) (hown : w.ownsRow base 5 1 v n xs) (x : Value) (m : Nat) (news : List Value) (hs : Src Tryd.prog 1 tx x m news w) (hm : 0 < m ∨ 0 < n) (hn : n + m ≤ 16777216) (hbase : base ≤ w.heap.size) :
    ∃ g cap w', (Builtin.append_ #[22, tx] ty #[v, x]).run Tryd.prog w = .ok (.slice (some ⟨g, 0, none⟩) (n + m) cap) w' ∧
      w'.ownsRow base 5 1 (.slice (some ⟨g, 0, none⟩) (n + m) cap) (n + m) (xs ++ news) ∧ w.grownBy w' v.ownBlock ∧ (v.ownBlock = some g ∨ g = w.heap.size) ∧ Below base w w' := by
  obtain ⟨i0, hi, hz0, hz1, hz2⟩ := info_parts Tryd.info5
  exact run_append_src w base 22 tx ty 5 i0 (.int .u8 0) 1 Tryd.underlying22 hi hz0 hz1 hz2 rfl v n xs hown x m news hs hm (by unfold maxLen; omega) (by omega) hbase

theorem append_str (w : World) (base : Nat) (ty : TypeId) (v : Value) (n : Nat) (xs : List Value) (hown : w.ownsRow base 5 1 v n xs) (a b : UInt8) (hn : n + 2 ≤ 16777216) (hbase : base ≤ w.heap.size) :
    ∃ g cap w', (Builtin.append_ #[22, 9] ty #[v, .string ⟨#[a, b]⟩]).run Tryd.prog w = .ok (.slice (some ⟨g, 0, none⟩) (n + 2) cap) w' ∧
      w'.ownsRow base 5 1 (.slice (some ⟨g, 0, none⟩) (n + 2) cap) (n + 2) (xs ++ [.int .u8 a.toNat, .int .u8 b.toNat]) ∧ Below base w w' := by
  obtain ⟨g, cap, w', h1, h2, _, _, h3⟩ := append_byte w base 9 ty v n xs hown (.string ⟨#[a, b]⟩) 2 _ (Src.ofString w Tryd.underlying9 ⟨#[a, b]⟩) (.inl (by omega)) (by omega) hbase
  exact ⟨g, cap, w', h1, by simpa [byteCells] using h2, h3⟩

/-- Appending a row of bytes that has just been built. -/
theorem append_lit (w : World) (base : Nat) (v : Value) (n : Nat) (xs : List Value) (hown : w.ownsRow base 5 1 v n xs) (W : World) (cs : List Int) (nq : Nat) (hW : W = (w.alloc (.cells (cs.map (Value.int .u8)).toArray 5)).drewN nq) (hc0 : 0 < cs.length) (hn : n + cs.length ≤ 16777216) (hbase : base ≤ w.heap.size) :
    ∃ g cap w', (Builtin.append_ #[22, 22] 22 #[v, .slice (some ⟨w.heap.size, 0, none⟩) cs.length cs.length]).run Tryd.prog W = .ok (.slice (some ⟨g, 0, none⟩) (n + cs.length) cap) w' ∧
      w'.ownsRow base 5 1 (.slice (some ⟨g, 0, none⟩) (n + cs.length) cap) (n + cs.length) (xs ++ cs.map (Value.int .u8)) ∧ Below base w w' := by
  subst hW
  have hb0 : Below base w ((w.alloc (.cells (cs.map (Value.int .u8)).toArray 5)).drewN nq) := below_drewN ((Below.refl _ _).alloc hbase _) nq
  have hheap : ((w.alloc (.cells (cs.map (Value.int .u8)).toArray 5)).drewN nq).heap[w.heap.size]? = some (.cells (cs.map (Value.int .u8)).toArray 5 (0, 0)) := heap_alloc_new w _
  have hown1 : ((w.alloc (.cells (cs.map (Value.int .u8)).toArray 5)).drewN nq).ownsRow base 5 1 v n xs := hown.alloc _
  obtain ⟨g, cap, w', h1, h2, _, _, h3⟩ := append_byte _ base 22 22 v n xs hown1 (.slice (some ⟨w.heap.size, 0, none⟩) cs.length cs.length) cs.length (cs.map (Value.int .u8))
    (Src.ofSlice _ Tryd.underlying22 ⟨w.heap.size, 0, none⟩ cs.length cs.length _ (by simp) (by simpa using World.news_of_block hheap) (ints_oneCell _ _)) (.inl hc0) hn (by simp; omega)
  exact ⟨g, cap, w', h1, h2, hb0.trans h3⟩

theorem clone_any (a : Option Addr) (len cap : Nat) (zs : List Int) (w : World) (h : InRow .u8 w a len cap zs) (hlen : len ≤ 1048576) :
    Calls Tryd.prog 6 #[.slice a len cap] w fun e w' => ∃ a', e = .returned (.slice a' len len) ∧ w'.ownsRow w.heap.size 5 1 (.slice a' len len) len ((zs.take len).map (Value.int .u8)) ∧ Below w.heap.size w w' := by
  have q22 : ∀ (w : World) (a : Option Addr) (n c n' c' : Nat), (binOp .eql 22 (.slice a n c) (.slice none n' c')).run Tryd.prog w = .ok (.bool a.isNone) w := fun w a n c n' c' => Lib.run_eql_slice_nil w _ _ a n c n' c' Tryd.underlying22
  have hr := h.row
  cases a with
  | none =>
    rcases h with ⟨_, rfl, rfl, rfl⟩ | ⟨x, hx, _⟩
    · clear hr
      go_enter Tryd.func6, Tryd.ntmps6
      go_wp2
      go_ret
      exact ⟨none, rfl, World.ownsRow_nil _ _ _ _, Below.refl _ _⟩
    · simp at hx
  | some x =>
    obtain ⟨W1, W2, hmk, hcp, hown, hbel⟩ := clone_runs (P := Tryd.prog) 22 5 .u8 1 Tryd.underlying22 Tryd.info5 w x len cap (zs.take len) hr.2 hr.1 (by omega) (by unfold maxLen; omega)
    clear hr h
    go_enter Tryd.func6, Tryd.ntmps6
    go_wp2
    go_ret
    exact ⟨_, rfl, hown, hbel⟩

/-- A slice that the call owns, cloned again: as 'InRow' has it. -/
theorem owns_in {k : IntKind} {w : World} {base : Nat} {e : TypeId} {a : Option Addr} {len : Nat} {zs : List Int} (h : w.ownsRow base e 1 (.slice a len len) len (zs.map (Value.int k))) (hwf : ∀ n ∈ zs, (Lit.int k n).wf = true) : InRow k w a len len zs := by
  have hl : zs.length = len := by simpa using h.1
  rcases h.2 with ⟨h1, h2⟩ | ⟨g, cp, cur, hv, hb, hg, hn, hm, hcs, htake⟩
  · left
    simp only [Value.slice.injEq] at h1
    refine ⟨h1.1, h2, h2, List.eq_nil_of_length_eq_zero (by omega)⟩
  · right
    simp only [Value.slice.injEq, true_and] at hv
    obtain ⟨rfl, rfl⟩ := hv
    refine ⟨_, rfl, Nat.le_refl _, hm, hl, fun i hi => ?_, hwf⟩
    have := h.cellAt i (by omega)
    rw [Addr.add_lit, Nat.zero_add, this]
    simp [List.getD, hi]

/-- lawSame at two rows of the same bytes. -/
theorem equal_same (a b : Option Addr) (n ca cb : Nat) (zs : List Int) (hn : zs.length = n) (hn2 : n ≤ 16777216) (w : World) (ha : Row .u8 w a zs) (hb : Row .u8 w b zs) :
    Calls Tryd.prog 8 #[.slice a n ca, .slice b n cb] w fun e w' => e = .returned (.bool true) ∧ ∃ m, w' = w.drewN m := by
  have HA : Hid (Row .u8 w a zs) := ha
  have HB : Hid (Row .u8 w b zs) := hb
  have HL : Hid (zs.length = n) := hn
  clear ha hb hn
  go_enter Tryd.func8, Tryd.ntmps8
  go_wp2
  go_loopw [5] (fun i wr => ∃ k : Nat, k ≤ n ∧ i = .int .i64 k ∧ ∃ m, wr = w.drewN m) (fun i _ => n - (intOf i).toNat)
  case atStart => exact ⟨0, Nat.zero_le _, rfl, 0, rfl⟩
  case round =>
    obtain ⟨k, hk, rfl, m, rfl⟩ := hrel
    by_cases hlt : k < n
    · obtain ⟨b1, o1, rfl, c1⟩ : ∃ b off, a = some ⟨b, off, none⟩ ∧ w.cell? ⟨b, off + k, none⟩ = some (.int .u8 (zs.getD k 0)) := by
        rcases HA.out with h | ⟨b, off, h1, h2⟩
        · have := HL.out; rw [h] at this; simp at this; omega
        · exact ⟨b, off, h1, h2 k (by rw [HL.out]; exact hlt)⟩
      obtain ⟨b2, o2, rfl, c2⟩ : ∃ b' off, b = some ⟨b', off, none⟩ ∧ w.cell? ⟨b', off + k, none⟩ = some (.int .u8 (zs.getD k 0)) := by
        rcases HB.out with h | ⟨b, off, h1, h2⟩
        · have := HL.out; rw [h] at this; simp at this; omega
        · exact ⟨b, off, h1, h2 k (by rw [HL.out]; exact hlt)⟩
      obtain ⟨z, hz⟩ : ∃ z, zs.getD k 0 = z := ⟨_, rfl⟩
      rw [hz] at c1 c2
      clear hz
      have hlt' : (k : Int) < n := by omega
      go_wp2
      go_quiet (fail)
      go_wp2
      go_roundw
      case rel => exact ⟨k + 1, by omega, by go_num, _, rfl⟩
      case measure => simp [intOf]; omega
    · obtain rfl : k = n := by omega
      go_wp2
      go_ret
      exact ⟨rfl, m, rfl⟩

theorem owned_cells {k : IntKind} {w : World} {base : Nat} {e : TypeId} {g n cap : Nat} {zs : List Int} (h : w.ownsRow base e 1 (.slice (some ⟨g, 0, none⟩) n cap) n (zs.map (Value.int k))) :
    zs.length = n ∧ n ≤ cap ∧ ∀ i, i < n → w.cell? ⟨g, i, none⟩ = some (.int k (zs.getD i 0)) := by
  have hl : zs.length = n := by simpa using h.1
  refine ⟨hl, ?_, fun i hi => ?_⟩
  · rcases h.2 with ⟨h1, h2⟩ | ⟨g', cp, cur, hv, hb, hg, hn, hm, hcs, htake⟩
    · simp at h1
    · simp only [Value.slice.injEq, true_and] at hv
      omega
  · have := h.cellAt i (by omega)
    rw [this]
    simp [List.getD, hl, hi]

theorem getD_left (xs ys : List Int) (i : Nat) (h : i < xs.length) : (xs ++ ys).getD i 0 = xs.getD i 0 := by
  simp [List.getD, List.getElem?_append_left h]
theorem getD_right (xs ys : List Int) (i : Nat) : (xs ++ ys).getD (xs.length + i) 0 = ys.getD i 0 := by
  simp [List.getD, List.getElem?_append_right]

theorem InRow.wf {k : IntKind} {w : World} {a : Option Addr} {len cap : Nat} {zs : List Int} (h : InRow k w a len cap zs) : ∀ n ∈ zs.take len, (Lit.int k n).wf = true := by
  intro n hn
  rcases h with ⟨rfl, rfl, rfl, rfl⟩ | ⟨x, rfl, hl, hm, hz, hc, hw⟩
  · simp at hn
  · exact hw n (List.mem_of_mem_take hn)

end Go.Proofs.Qxb6605347aDoor
