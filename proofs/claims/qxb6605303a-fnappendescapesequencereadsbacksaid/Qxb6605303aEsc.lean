/- The walk of ZZappendEscape (appendEscape): onto a slice that the call owns. -/
import Derived.Test.Qxb6605303aProg
import Derived.Test.Qxb6605303aApp
import Derived.Deep.QuietTactic
import Derived.BigQuiet
import Derived.Outline
import Derived.Deep.RegionHeld3
import Derived.Deep.DrawnRows
import Derived.WalkLawsBesides
namespace Go.Proofs.Qxb6605303a
open Go.RowKit
set_option linter.unusedVariables false

theorem Try.info5 : (Try.prog.info? 5).map (fun i => (i.zero, i.size, i.bytes)) = some (some (.int .u8 0), 1, 1) := by kernel_rfl

/-- The hex digit's byte. -/
def hexD (d : Nat) : Int := if d < 10 then 48 + (d : Int) else 87 + (d : Int)
/-- What appendEscape appends. -/
def esc (r : Nat) : List Int :=
  if r = 34 then [92, 34] else if r = 92 then [92, 92] else if r = 8 then [92, 98] else if r = 12 then [92, 102] else if r = 10 then [92, 110] else if r = 13 then [92, 114] else if r = 9 then [92, 116]
  else [92, 117, hexD (r / 4096), hexD (r / 256 % 16), hexD (r / 16 % 16), hexD (r % 16)]

/-- One append onto an owned row of bytes. -/
theorem append_byte (w : World) (base : Nat) (tx ty : TypeId) (v : Value) (n : Nat) (xs : List Value) (hown : w.ownsRow base 5 1 v n xs) (x : Value) (m : Nat) (news : List Value) (hs : Src Try.prog 1 tx x m news w) (hm : 0 < m) (hn : n + m ≤ 16777216) (hbase : base ≤ w.heap.size) :
    ∃ g cap w', (Builtin.append_ #[22, tx] ty #[v, x]).run Try.prog w = .ok (.slice (some ⟨g, 0, none⟩) (n + m) cap) w' ∧
      w'.ownsRow base 5 1 (.slice (some ⟨g, 0, none⟩) (n + m) cap) (n + m) (xs ++ news) ∧ w.grownBy w' v.ownBlock ∧ (v.ownBlock = some g ∨ g = w.heap.size) ∧ Below base w w' := by
  obtain ⟨i0, hi, hz0, hz1, hz2⟩ := info_parts Try.info5
  exact run_append_src w base 22 tx ty 5 i0 (.int .u8 0) 1 Try.underlying22 hi hz0 hz1 hz2 rfl v n xs hown x m news hs hm (by unfold maxLen; omega) (by omega) hbase

theorem append_str (w : World) (base : Nat) (ty : TypeId) (v : Value) (n : Nat) (xs : List Value) (hown : w.ownsRow base 5 1 v n xs) (a b : UInt8) (hn : n + 2 ≤ 16777216) (hbase : base ≤ w.heap.size) :
    ∃ g cap w', (Builtin.append_ #[22, 9] ty #[v, .string ⟨#[a, b]⟩]).run Try.prog w = .ok (.slice (some ⟨g, 0, none⟩) (n + 2) cap) w' ∧
      w'.ownsRow base 5 1 (.slice (some ⟨g, 0, none⟩) (n + 2) cap) (n + 2) (xs ++ [.int .u8 a.toNat, .int .u8 b.toNat]) ∧ Below base w w' := by
  obtain ⟨g, cap, w', h1, h2, _, _, h3⟩ := append_byte w base 9 ty v n xs hown (.string ⟨#[a, b]⟩) 2 _ (Src.ofString w Try.underlying9 ⟨#[a, b]⟩) (by omega) (by omega) hbase
  exact ⟨g, cap, w', h1, by simpa [byteCells] using h2, h3⟩

/-- What the call of ZZappendEscape leaves. -/
def EscPost (w : World) (base : Nat) (n : Nat) (xs : List Value) (news : List Int) (e : Ending) (w' : World) : Prop :=
  ∃ g cap, e = .returned (.slice (some ⟨g, 0, none⟩) (n + news.length) cap) ∧ w'.ownsRow base 5 1 (.slice (some ⟨g, 0, none⟩) (n + news.length) cap) (n + news.length) (xs ++ news.map (Value.int .u8)) ∧ Below base w w'

/-- The five escapes whose text is a constant. -/
theorem esc_str (w : World) (base : Nat) (v : Value) (n : Nat) (xs : List Value) (hown : w.ownsRow base 5 1 v n xs) (hn : n + 6 ≤ 16777216) (hbase : base ≤ w.heap.size) :
    Calls Try.prog 9 #[v, .int .i32 8] w (EscPost w base n xs [92, 98]) ∧ Calls Try.prog 9 #[v, .int .i32 12] w (EscPost w base n xs [92, 102]) ∧
    Calls Try.prog 9 #[v, .int .i32 10] w (EscPost w base n xs [92, 110]) ∧ Calls Try.prog 9 #[v, .int .i32 13] w (EscPost w base n xs [92, 114]) ∧ Calls Try.prog 9 #[v, .int .i32 9] w (EscPost w base n xs [92, 116]) := by
  refine ⟨?_, ?_, ?_, ?_, ?_⟩
  · obtain ⟨g, cap, w1, hrun, ho, hb⟩ := append_str w base 22 v n xs hown 92 98 (by omega) hbase
    have HA : Hid ((Builtin.append_ #[22, 9] 22 #[v, .string ⟨#[92, 98]⟩]).run Try.prog w = .ok (.slice (some ⟨g, 0, none⟩) (n + 2) cap) w1) := hrun
    clear hown hrun
    go_enter Try.func9, Try.ntmps9
    go_wp2_with (first | (at_builtin; refine wpList_append_run rfl _ _ 22 9 rfl 22 rfl _ _ _ rfl rfl HA.out ?_) | go_in)
    go_ret
    exact ⟨g, cap, rfl, ho, hb⟩
  · obtain ⟨g, cap, w1, hrun, ho, hb⟩ := append_str w base 22 v n xs hown 92 102 (by omega) hbase
    have HA : Hid ((Builtin.append_ #[22, 9] 22 #[v, .string ⟨#[92, 102]⟩]).run Try.prog w = .ok (.slice (some ⟨g, 0, none⟩) (n + 2) cap) w1) := hrun
    clear hown hrun
    go_enter Try.func9, Try.ntmps9
    go_wp2_with (first | (at_builtin; refine wpList_append_run rfl _ _ 22 9 rfl 22 rfl _ _ _ rfl rfl HA.out ?_) | go_in)
    go_ret
    exact ⟨g, cap, rfl, ho, hb⟩
  · obtain ⟨g, cap, w1, hrun, ho, hb⟩ := append_str w base 22 v n xs hown 92 110 (by omega) hbase
    have HA : Hid ((Builtin.append_ #[22, 9] 22 #[v, .string ⟨#[92, 110]⟩]).run Try.prog w = .ok (.slice (some ⟨g, 0, none⟩) (n + 2) cap) w1) := hrun
    clear hown hrun
    go_enter Try.func9, Try.ntmps9
    go_wp2_with (first | (at_builtin; refine wpList_append_run rfl _ _ 22 9 rfl 22 rfl _ _ _ rfl rfl HA.out ?_) | go_in)
    go_ret
    exact ⟨g, cap, rfl, ho, hb⟩
  · obtain ⟨g, cap, w1, hrun, ho, hb⟩ := append_str w base 22 v n xs hown 92 114 (by omega) hbase
    have HA : Hid ((Builtin.append_ #[22, 9] 22 #[v, .string ⟨#[92, 114]⟩]).run Try.prog w = .ok (.slice (some ⟨g, 0, none⟩) (n + 2) cap) w1) := hrun
    clear hown hrun
    go_enter Try.func9, Try.ntmps9
    go_wp2_with (first | (at_builtin; refine wpList_append_run rfl _ _ 22 9 rfl 22 rfl _ _ _ rfl rfl HA.out ?_) | go_in)
    go_ret
    exact ⟨g, cap, rfl, ho, hb⟩
  · obtain ⟨g, cap, w1, hrun, ho, hb⟩ := append_str w base 22 v n xs hown 92 116 (by omega) hbase
    have HA : Hid ((Builtin.append_ #[22, 9] 22 #[v, .string ⟨#[92, 116]⟩]).run Try.prog w = .ok (.slice (some ⟨g, 0, none⟩) (n + 2) cap) w1) := hrun
    clear hown hrun
    go_enter Try.func9, Try.ntmps9
    go_wp2_with (first | (at_builtin; refine wpList_append_run rfl _ _ 22 9 rfl 22 rfl _ _ _ rfl rfl HA.out ?_) | go_in)
    go_ret
    exact ⟨g, cap, rfl, ho, hb⟩

/-- Appending a row of bytes that has just been built. -/
theorem append_lit (w : World) (base : Nat) (v : Value) (n : Nat) (xs : List Value) (hown : w.ownsRow base 5 1 v n xs) (W : World) (cs : List Int) (nq : Nat) (hW : W = (w.alloc (.cells (cs.map (Value.int .u8)).toArray 5)).drewN nq) (hc0 : 0 < cs.length) (hn : n + cs.length ≤ 16777216) (hbase : base ≤ w.heap.size) :
    ∃ g cap w', (Builtin.append_ #[22, 22] 22 #[v, .slice (some ⟨w.heap.size, 0, none⟩) cs.length cs.length]).run Try.prog W = .ok (.slice (some ⟨g, 0, none⟩) (n + cs.length) cap) w' ∧
      w'.ownsRow base 5 1 (.slice (some ⟨g, 0, none⟩) (n + cs.length) cap) (n + cs.length) (xs ++ cs.map (Value.int .u8)) ∧ Below base w w' := by
  subst hW
  have hb0 : Below base w ((w.alloc (.cells (cs.map (Value.int .u8)).toArray 5)).drewN nq) := below_drewN ((Below.refl _ _).alloc hbase _) nq
  have hheap : ((w.alloc (.cells (cs.map (Value.int .u8)).toArray 5)).drewN nq).heap[w.heap.size]? = some (.cells (cs.map (Value.int .u8)).toArray 5 (0, 0)) := heap_alloc_new w _
  have hown1 : ((w.alloc (.cells (cs.map (Value.int .u8)).toArray 5)).drewN nq).ownsRow base 5 1 v n xs := hown.alloc _
  obtain ⟨g, cap, w', h1, h2, _, _, h3⟩ := append_byte _ base 22 22 v n xs hown1 (.slice (some ⟨w.heap.size, 0, none⟩) cs.length cs.length) cs.length (cs.map (Value.int .u8))
    (Src.ofSlice _ Try.underlying22 ⟨w.heap.size, 0, none⟩ cs.length cs.length _ (by simp) (by simpa using World.news_of_block hheap) (ints_oneCell _ _)) hc0 hn (by simp; omega)
  exact ⟨g, cap, w', h1, h2, hb0.trans h3⟩

/-- The quote and the backslash. -/
theorem esc_two (w : World) (base : Nat) (v : Value) (n : Nat) (xs : List Value) (hown : w.ownsRow base 5 1 v n xs) (hn : n + 6 ≤ 16777216) (hbase : base ≤ w.heap.size) :
    Calls Try.prog 9 #[v, .int .i32 34] w (EscPost w base n xs [92, 34]) ∧ Calls Try.prog 9 #[v, .int .i32 92] w (EscPost w base n xs [92, 92]) := by
  refine ⟨?_, ?_⟩
  · obtain ⟨g, cap, w1, hrun, ho, hb⟩ := append_lit w base v n xs hown _ [92, 34] 0 rfl (by simp) (by simp; omega) hbase
    have HA : Hid ((Builtin.append_ #[22, 22] 22 #[v, .slice (some ⟨w.heap.size, 0, none⟩) 2 2]).run Try.prog (w.alloc (.cells #[.int .u8 92, .int .u8 34] 5)) = .ok (.slice (some ⟨g, 0, none⟩) (n + 2) cap) w1) := hrun
    clear hown hrun
    go_enter Try.func9, Try.ntmps9
    go_wp2_with (first | (at_builtin; refine wpList_append_run rfl _ _ 22 22 rfl 22 rfl _ _ _ rfl rfl HA.out ?_) | go_in)
    go_ret
    exact ⟨g, cap, rfl, ho, hb⟩
  · obtain ⟨g, cap, w1, hrun, ho, hb⟩ := append_lit w base v n xs hown _ [92, 92] 0 rfl (by simp) (by simp; omega) hbase
    have HA : Hid ((Builtin.append_ #[22, 22] 22 #[v, .slice (some ⟨w.heap.size, 0, none⟩) 2 2]).run Try.prog (w.alloc (.cells #[.int .u8 92, .int .u8 92] 5)) = .ok (.slice (some ⟨g, 0, none⟩) (n + 2) cap) w1) := hrun
    clear hown hrun
    go_enter Try.func9, Try.ntmps9
    go_wp2_with (first | (at_builtin; refine wpList_append_run rfl _ _ 22 22 rfl 22 rfl _ _ _ rfl rfl HA.out ?_) | go_in)
    go_ret
    exact ⟨g, cap, rfl, ho, hb⟩

theorem and15 (x : Nat) (h : x ≤ 65535) : bits .and .i32 (x : Int) 15 = ((x % 16 : Nat) : Int) := by
  have := bits_mask .i32 31 (by decide) wraps_i32 4 (by decide) (x : Int) (by omega) (by omega)
  simpa using this

theorem hexIx0 (w : World) : (Instr.index 9 (.string ⟨#[48, 49, 50, 51, 52, 53, 54, 55, 56, 57, 97, 98, 99, 100, 101, 102]⟩) (.int .i32 0)).run Try.prog w = .ok (.int .u8 48) w := by kernel_rfl
theorem hexIx1 (w : World) : (Instr.index 9 (.string ⟨#[48, 49, 50, 51, 52, 53, 54, 55, 56, 57, 97, 98, 99, 100, 101, 102]⟩) (.int .i32 1)).run Try.prog w = .ok (.int .u8 49) w := by kernel_rfl
theorem hexIx2 (w : World) : (Instr.index 9 (.string ⟨#[48, 49, 50, 51, 52, 53, 54, 55, 56, 57, 97, 98, 99, 100, 101, 102]⟩) (.int .i32 2)).run Try.prog w = .ok (.int .u8 50) w := by kernel_rfl
theorem hexIx3 (w : World) : (Instr.index 9 (.string ⟨#[48, 49, 50, 51, 52, 53, 54, 55, 56, 57, 97, 98, 99, 100, 101, 102]⟩) (.int .i32 3)).run Try.prog w = .ok (.int .u8 51) w := by kernel_rfl
theorem hexIx4 (w : World) : (Instr.index 9 (.string ⟨#[48, 49, 50, 51, 52, 53, 54, 55, 56, 57, 97, 98, 99, 100, 101, 102]⟩) (.int .i32 4)).run Try.prog w = .ok (.int .u8 52) w := by kernel_rfl
theorem hexIx5 (w : World) : (Instr.index 9 (.string ⟨#[48, 49, 50, 51, 52, 53, 54, 55, 56, 57, 97, 98, 99, 100, 101, 102]⟩) (.int .i32 5)).run Try.prog w = .ok (.int .u8 53) w := by kernel_rfl
theorem hexIx6 (w : World) : (Instr.index 9 (.string ⟨#[48, 49, 50, 51, 52, 53, 54, 55, 56, 57, 97, 98, 99, 100, 101, 102]⟩) (.int .i32 6)).run Try.prog w = .ok (.int .u8 54) w := by kernel_rfl
theorem hexIx7 (w : World) : (Instr.index 9 (.string ⟨#[48, 49, 50, 51, 52, 53, 54, 55, 56, 57, 97, 98, 99, 100, 101, 102]⟩) (.int .i32 7)).run Try.prog w = .ok (.int .u8 55) w := by kernel_rfl
theorem hexIx8 (w : World) : (Instr.index 9 (.string ⟨#[48, 49, 50, 51, 52, 53, 54, 55, 56, 57, 97, 98, 99, 100, 101, 102]⟩) (.int .i32 8)).run Try.prog w = .ok (.int .u8 56) w := by kernel_rfl
theorem hexIx9 (w : World) : (Instr.index 9 (.string ⟨#[48, 49, 50, 51, 52, 53, 54, 55, 56, 57, 97, 98, 99, 100, 101, 102]⟩) (.int .i32 9)).run Try.prog w = .ok (.int .u8 57) w := by kernel_rfl
theorem hexIx10 (w : World) : (Instr.index 9 (.string ⟨#[48, 49, 50, 51, 52, 53, 54, 55, 56, 57, 97, 98, 99, 100, 101, 102]⟩) (.int .i32 10)).run Try.prog w = .ok (.int .u8 97) w := by kernel_rfl
theorem hexIx11 (w : World) : (Instr.index 9 (.string ⟨#[48, 49, 50, 51, 52, 53, 54, 55, 56, 57, 97, 98, 99, 100, 101, 102]⟩) (.int .i32 11)).run Try.prog w = .ok (.int .u8 98) w := by kernel_rfl
theorem hexIx12 (w : World) : (Instr.index 9 (.string ⟨#[48, 49, 50, 51, 52, 53, 54, 55, 56, 57, 97, 98, 99, 100, 101, 102]⟩) (.int .i32 12)).run Try.prog w = .ok (.int .u8 99) w := by kernel_rfl
theorem hexIx13 (w : World) : (Instr.index 9 (.string ⟨#[48, 49, 50, 51, 52, 53, 54, 55, 56, 57, 97, 98, 99, 100, 101, 102]⟩) (.int .i32 13)).run Try.prog w = .ok (.int .u8 100) w := by kernel_rfl
theorem hexIx14 (w : World) : (Instr.index 9 (.string ⟨#[48, 49, 50, 51, 52, 53, 54, 55, 56, 57, 97, 98, 99, 100, 101, 102]⟩) (.int .i32 14)).run Try.prog w = .ok (.int .u8 101) w := by kernel_rfl
theorem hexIx15 (w : World) : (Instr.index 9 (.string ⟨#[48, 49, 50, 51, 52, 53, 54, 55, 56, 57, 97, 98, 99, 100, 101, 102]⟩) (.int .i32 15)).run Try.prog w = .ok (.int .u8 102) w := by kernel_rfl
theorem hexIx (d : Nat) (hd : d < 16) (w : World) : (Instr.index 9 (.string ⟨#[48, 49, 50, 51, 52, 53, 54, 55, 56, 57, 97, 98, 99, 100, 101, 102]⟩) (.int .i32 (d : Int))).run Try.prog w = .ok (.int .u8 (hexD d)) w := by
  match d, hd with
  | 0, _ => exact hexIx0 w
  | 1, _ => exact hexIx1 w
  | 2, _ => exact hexIx2 w
  | 3, _ => exact hexIx3 w
  | 4, _ => exact hexIx4 w
  | 5, _ => exact hexIx5 w
  | 6, _ => exact hexIx6 w
  | 7, _ => exact hexIx7 w
  | 8, _ => exact hexIx8 w
  | 9, _ => exact hexIx9 w
  | 10, _ => exact hexIx10 w
  | 11, _ => exact hexIx11 w
  | 12, _ => exact hexIx12 w
  | 13, _ => exact hexIx13 w
  | 14, _ => exact hexIx14 w
  | 15, _ => exact hexIx15 w
  | k + 16, h => omega

set_option maxRecDepth 100000 in
set_option maxHeartbeats 1000000 in
theorem esc_hex (w : World) (base : Nat) (v : Value) (n : Nat) (xs : List Value) (hown : w.ownsRow base 5 1 v n xs) (hn : n + 6 ≤ 16777216) (hbase : base ≤ w.heap.size) (r : Nat) (hr : r ≤ 65535)
    (h1 : ((r : Int) == 34) = false) (h2 : ((r : Int) == 92) = false) (h3 : ((r : Int) == 8) = false) (h4 : ((r : Int) == 12) = false) (h5 : ((r : Int) == 10) = false) (h6 : ((r : Int) == 13) = false) (h7 : ((r : Int) == 9) = false) :
    Calls Try.prog 9 #[v, .int .i32 (r : Int)] w (EscPost w base n xs [92, 117, hexD (r / 4096), hexD (r / 256 % 16), hexD (r / 16 % 16), hexD (r % 16)]) := by
  have b3 := and15 (r / 4096) (by omega)
  have b2 := and15 (r / 256) (by omega)
  have b1 := and15 (r / 16) (by omega)
  have b0 := and15 r (by omega)
  have e3 : r / 4096 % 16 = r / 4096 := by omega
  rw [e3] at b3
  clear e3
  obtain ⟨d3, hd3⟩ : ∃ d, r / 4096 = d := ⟨_, rfl⟩
  obtain ⟨d2, hd2⟩ : ∃ d, r / 256 % 16 = d := ⟨_, rfl⟩
  obtain ⟨d1, hd1⟩ : ∃ d, r / 16 % 16 = d := ⟨_, rfl⟩
  obtain ⟨d0, hd0⟩ : ∃ d, r % 16 = d := ⟨_, rfl⟩
  have t3 : d3 < 16 := by omega
  have t2 : d2 < 16 := by omega
  have t1 : d1 < 16 := by omega
  have t0 : d0 < 16 := by omega
  rw [hd2] at b2
  rw [hd1] at b1
  rw [hd0] at b0
  rw [hd3, hd2, hd1, hd0]
  have b3' : bits .and .i32 ((r : Int) / 4096) 15 = (d3 : Int) := by rw [← hd3, ← b3, hd3, ← hd3]; simp
  have b2' : bits .and .i32 ((r : Int) / 256) 15 = (d2 : Int) := by rw [← b2]; simp
  have b1' : bits .and .i32 ((r : Int) / 16) 15 = (d1 : Int) := by rw [← b1]; simp
  clear b3 b2 b1 hd3 hd2 hd1 hd0
  have u3 : (0 : Int) ≤ (d3 : Int) ∧ (d3 : Int) < 16 := by omega
  have u2 : (0 : Int) ≤ (d2 : Int) ∧ (d2 : Int) < 16 := by omega
  have u1 : (0 : Int) ≤ (d1 : Int) ∧ (d1 : Int) < 16 := by omega
  have u0 : (0 : Int) ≤ (d0 : Int) ∧ (d0 : Int) < 16 := by omega
  have x3 := hexIx d3 t3
  have x2 := hexIx d2 t2
  have x1 := hexIx d1 t1
  have x0 := hexIx d0 t0
  obtain ⟨y3, hy3⟩ : ∃ y, hexD d3 = y := ⟨_, rfl⟩
  obtain ⟨y2, hy2⟩ : ∃ y, hexD d2 = y := ⟨_, rfl⟩
  obtain ⟨y1, hy1⟩ : ∃ y, hexD d1 = y := ⟨_, rfl⟩
  obtain ⟨y0, hy0⟩ : ∃ y, hexD d0 = y := ⟨_, rfl⟩
  rw [hy3] at x3 ⊢
  rw [hy2] at x2 ⊢
  rw [hy1] at x1 ⊢
  rw [hy0] at x0 ⊢
  clear hy3 hy2 hy1 hy0 u3 u2 u1 u0
  obtain ⟨g, cap, w1, hrun, ho, hb⟩ := append_lit w base v n xs hown _ [92, 117, y3, y2, y1, y0] 1 rfl (by simp) (by simp; omega) hbase
  have HA : Hid ((Builtin.append_ #[22, 22] 22 #[v, .slice (some ⟨w.heap.size, 0, none⟩) 6 6]).run Try.prog (w.alloc (.cells #[.int .u8 92, .int .u8 117, .int .u8 y3, .int .u8 y2, .int .u8 y1, .int .u8 y0] 5)).drew = .ok (.slice (some ⟨g, 0, none⟩) (n + 6) cap) w1) := hrun
  have HO : Hid (w1.ownsRow base 5 1 (.slice (some ⟨g, 0, none⟩) (n + 6) cap) (n + 6) (xs ++ [92, 117, y3, y2, y1, y0].map (Value.int .u8)) ∧ Below base w w1) := ⟨ho, hb⟩
  clear hown hrun ho hb t3 t2 t1 t0 hn hbase hr
  go_enter Try.func9, Try.ntmps9
  go_wp2
  go_region_held3 (fun _ => True) (trivial) ((refine step_append_run (by rfl) _ _ 22 22 (by rfl) 22 (by rfl) _ _ _ (by rfl) (by rfl) HA.out ?_))
  all_goals
    go_wp2
    go_ret
    exact ⟨g, cap, rfl, HO.out⟩

end Go.Proofs.Qxb6605303a
