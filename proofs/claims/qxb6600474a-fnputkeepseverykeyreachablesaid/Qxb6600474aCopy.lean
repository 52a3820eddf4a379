/- The walk of zzCopyHashes. -/
import Derived.Test.Qxb6600474aProg
import Derived.Test.Qxb6600474aKit
import Derived.Deep.QuietTactic
import Derived.BigQuiet
import Derived.Outline
import Derived.OpenShut
import Derived.WalkLawsBesides
namespace Go.Proofs.Qxb6600474a
open Go.RowKit
set_option linter.unusedVariables false

theorem Try.info27 : (Try.prog.info? 27).map (fun i => (i.zero, i.size, i.bytes)) = some (some (.int .u64 0), 1, 8) := by kernel_rfl

/-- The run of 'make([]uint64, n)'. -/
theorem make_runs (w : World) (n : Nat) (hn : n ≤ 1048576) : ∃ W1 : World, (Instr.makeSlice 22 (.int .i64 (n : Int)) (.int .i64 (n : Int))).run Try.prog w = .ok (.slice (some ⟨w.heap.size, 0, none⟩) n n) W1 ∧
    W1.ownsRow w.heap.size 27 1 (.slice (some ⟨w.heap.size, 0, none⟩) n n) n ((List.replicate n (0 : Int)).map (Value.int .u64)) ∧ Below w.heap.size w W1 := by
  obtain ⟨i, hi, hz0, hz1, hz2⟩ := info_parts Try.info27
  have hmk := run_make (P := Try.prog) w 22 27 i (.int .u64 0) Try.underlying22 hi hz0 .i64 .i64 n n (by omega) (by omega) (by rw [hz2]; omega) (by omega)
  simp only [Int.toNat_natCast, hz1, Nat.mul_one] at hmk
  refine ⟨_, hmk, ?_, (Below.refl _ _).alloc (Nat.le_refl _) _⟩
  have := World.ownsRow_lit (e := 27) (size := 1) (base := w.heap.size) w (madeCells (Value.int .u64 0).cells n) n (Nat.le_refl _) (by unfold maxLen; omega) (by rw [size_madeCells]; omega)
  have e : (madeCells (Value.int .u64 0).cells n).toList = (List.replicate n (0 : Int)).map (Value.int .u64) := by
    rw [show (Value.int .u64 0).cells = #[Value.int .u64 0] from rfl, toList_madeCells_one]; simp
  rw [e] at this
  exact this

theorem set_step (zs : List Int) (n k : Nat) (hz : zs.length = n) (hk : k < n) :
    ((zs.take k ++ List.replicate (n - k) 0).map (Value.int .u64)).set k (.int .u64 (zs.getD k 0)) = (zs.take (k + 1) ++ List.replicate (n - (k + 1)) 0).map (Value.int .u64) := by
  have h1 : List.replicate (n - k) (0 : Int) = 0 :: List.replicate (n - (k + 1)) 0 := by
    rw [show n - k = (n - (k + 1)) + 1 by omega]; rfl
  have h2 : (zs.take k).length = k := by simp; omega
  have h3 : zs.take (k + 1) = zs.take k ++ [zs.getD k 0] := by
    rw [List.take_succ_eq_append_getElem (by omega)]; simp [List.getD, hz, hk]
  rw [h1, h3]
  simp only [List.map_append, List.map_cons]
  rw [List.set_append_right _ _ (by simp; omega)]
  simp [show k - min k zs.length = 0 by omega]

theorem copy_any (a : Option Addr) (len cap : Nat) (z0 : List Int) (w : World) (h : InRow .u64 w a len cap z0) (hlen : len ≤ 1048576) :
    Calls Try.prog 6 #[.slice a len cap] w fun e w' => ∃ a', e = .returned (.slice a' len len) ∧ Row .u64 w' a' (z0.take len) ∧ Below w.heap.size w w' := by
  have q22 : ∀ (w : World) (a : Option Addr) (n c n' c' : Nat), (binOp .eql 22 (.slice a n c) (.slice none n' c')).run Try.prog w = .ok (.bool a.isNone) w := fun w a n c n' c' => Lib.run_eql_slice_nil w _ _ a n c n' c' Try.underlying22
  have hr := h.row
  cases a with
  | none =>
    rcases h with ⟨_, rfl, rfl, rfl⟩ | ⟨x, hx, _⟩
    · clear hr
      go_enter Try.func6, Try.ntmps6
      go_wp2
      go_ret
      exact ⟨none, rfl, .inl rfl, Below.refl _ _⟩
    · simp at hx
  | some x =>
    obtain ⟨zs, hzs⟩ : ∃ zs, z0.take len = zs := ⟨_, rfl⟩
    rw [hzs] at hr ⊢
    obtain ⟨W1, hmk, hown, hbel⟩ := make_runs w len hlen
    have HR : Hid (Row .u64 w (some x) zs) := hr.1
    have HL : Hid (zs.length = len) := hr.2
    have HO : Hid (W1.ownsRow w.heap.size 27 1 (.slice (some ⟨w.heap.size, 0, none⟩) len len) len ((zs.take 0 ++ List.replicate (len - 0) 0).map (Value.int .u64)) ∧ Below w.heap.size w W1) := ⟨by simpa using hown, hbel⟩
    clear hr h hzs hown hbel
    go_enter Try.func6, Try.ntmps6
    go_wp2
    go_loopw [4] (fun i wr => ∃ k : Nat, k ≤ len ∧ i = .int .i64 k ∧ Hid (wr.ownsRow w.heap.size 27 1 (.slice (some ⟨w.heap.size, 0, none⟩) len len) len ((zs.take k ++ List.replicate (len - k) 0).map (Value.int .u64)) ∧ Below w.heap.size w wr)) (fun i _ => len - (intOf i).toNat)
    case atStart => exact ⟨0, Nat.zero_le _, rfl, HO.out⟩
    case round =>
      obtain ⟨k, hk, rfl, HX⟩ := hrel
      by_cases hlt : k < len
      · obtain ⟨b, off, hx, hck⟩ : ∃ b off, x = ⟨b, off, none⟩ ∧ wr.cell? ⟨b, off + k, none⟩ = some (.int .u64 (zs.getD k 0)) := by
          rcases HR.out.below HX.out.2 with h | ⟨b, off, h1, h2⟩
          · have := HL.out; rw [h] at this; simp at this; omega
          · exact ⟨b, off, by simpa using h1, h2 k (by rw [HL.out]; exact hlt)⟩
        subst hx
        obtain ⟨hown, hbel⟩ := HX.out
        have hcd : ∃ v, wr.cell? ⟨w.heap.size, k, none⟩ = some v := by
          rw [hown.cellAt k (by omega)]
          exact ⟨_, List.getElem?_eq_getElem (by simp [HL.out]; omega)⟩
        obtain ⟨v, hcv⟩ := hcd
        have hfz := hown.frozenAt k
        have hst := (hown.stored k (.int .u64 (zs.getD k 0))).1
        rw [set_step zs len k HL.out hlt] at hst
        obtain ⟨y, hy⟩ : ∃ y, zs.getD k 0 = y := ⟨_, rfl⟩
        rw [hy] at hst hck
        have HN : Hid ((wr.setCell ⟨w.heap.size, k, none⟩ (.int .u64 y)).ownsRow w.heap.size 27 1 (.slice (some ⟨w.heap.size, 0, none⟩) len len) len ((zs.take (k + 1) ++ List.replicate (len - (k + 1)) 0).map (Value.int .u64)) ∧ Below w.heap.size w (wr.setCell ⟨w.heap.size, k, none⟩ (.int .u64 y))) := ⟨hst, hbel.setCell (Nat.le_refl _) _⟩
        clear hown hbel hst hy HX
        go_wp2
        go_roundw
        case rel => exact ⟨k + 1, by omega, by go_num, HN⟩
        case measure => simp [intOf]; omega
      · obtain rfl : k = len := by omega
        have hfin : Row .u64 wr (some ⟨w.heap.size, 0, none⟩) zs := by
          have := HX.out.1
          rw [Nat.sub_self, List.replicate_zero, List.append_nil, List.take_of_length_le (by rw [HL.out]; exact Nat.le_refl _)] at this
          exact (ownsRow_row this).1
        have HF : Hid (Row .u64 wr (some ⟨w.heap.size, 0, none⟩) zs) := hfin
        clear hfin
        go_wp2
        go_ret
        exact ⟨_, rfl, HF.out, HX.out.2⟩

end Go.Proofs.Qxb6600474a
