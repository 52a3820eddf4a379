/- The walks of zzCloneInts, ZZpadOf (padOf), the size guards. -/
import Derived.Test.Qxb6605303aProg
import Derived.Test.Qxb6605303aKit
import Derived.Deep.QuietTactic
import Derived.BigQuiet
import Derived.Outline
namespace Go.Proofs.Qxb6605303a
open Go.RowKit

theorem Try.info3 : (Try.prog.info? 3).map (fun i => (i.zero, i.size, i.bytes)) = some (some (.int .i64 0), 1, 8) := by kernel_rfl

theorem cloneInts_any (a : Option Addr) (len cap : Nat) (zs : List Int) (w : World) (h : InRow .i64 w a len cap zs) (hlen : len ≤ 1048576) :
    Calls Try.prog 16 #[.slice a len cap] w fun e w' => ∃ a', e = .returned (.slice a' len len) ∧ w'.ownsRow w.heap.size 3 1 (.slice a' len len) len ((zs.take len).map (Value.int .i64)) ∧ Below w.heap.size w w' := by
  have q33 : ∀ (w : World) (a : Option Addr) (n c n' c' : Nat), (binOp .eql 33 (.slice a n c) (.slice none n' c')).run Try.prog w = .ok (.bool a.isNone) w := fun w a n c n' c' => Lib.run_eql_slice_nil w _ _ a n c n' c' Try.underlying33
  have hr := h.row
  cases a with
  | none =>
    rcases h with ⟨_, rfl, rfl, rfl⟩ | ⟨x, hx, _⟩
    · clear hr
      go_enter Try.func16, Try.ntmps16
      go_wp2
      go_ret
      exact ⟨none, rfl, World.ownsRow_nil _ _ _ _, Below.refl _ _⟩
    · simp at hx
  | some x =>
    obtain ⟨W1, W2, hmk, hcp, hown, hbel⟩ := clone_runs (P := Try.prog) 33 3 .i64 8 Try.underlying33 Try.info3 w x len cap (zs.take len) hr.2 hr.1 (by omega) (by unfold maxLen; omega)
    have hcp3 := hcp
    clear hr h hcp
    go_enter Try.func16, Try.ntmps16
    go_wp2
    go_ret
    exact ⟨_, rfl, hown, hbel⟩

/-- The sum of 'k' widths from column 'c' on; a missing one counts nothing. -/
def sumW (zs : List Int) (c : Nat) : Nat → Int
  | 0 => 0
  | k + 1 => sumW zs c k + zs.getD (c + k) 0

theorem sumW_bd (zs : List Int) (c : Nat) (hz : ∀ i, 0 ≤ zs.getD i 0 ∧ zs.getD i 0 ≤ 1048576) : ∀ k : Nat, 0 ≤ sumW zs c k ∧ sumW zs c k ≤ 1048576 * (k : Int) := by
  intro k
  induction k with
  | zero => simp [sumW]
  | succ k ih => have := hz (c + k); simp only [sumW]; omega

theorem sumW_past (zs : List Int) (c : Nat) (m : Nat) (h : zs.length ≤ c + m) : ∀ j : Nat, sumW zs c (m + j) = sumW zs c m := by
  intro j
  induction j with
  | zero => rfl
  | succ j ih =>
    have e : zs.getD (c + (m + j)) 0 = 0 := by rw [List.getD, List.getElem?_eq_none (by omega)]; rfl
    rw [← Nat.add_assoc]
    simp only [sumW, ih, e]
    omega

/-- What padOf's loop keeps of the world. -/
def PadW (w wr : World) (a : Option Addr) (n cap : Nat) (wd : Int) (c s : Nat) : Prop :=
  Below w.heap.size w wr ∧ wr.cell? ⟨w.heap.size, 4, none⟩ = some (.slice a n cap) ∧ wr.cell? ⟨w.heap.size + 1, 2, none⟩ = some (.int .i32 wd) ∧
  wr.cell? ⟨w.heap.size + 1, 3, none⟩ = some (.int .u8 (c : Int)) ∧ wr.cell? ⟨w.heap.size + 1, 4, none⟩ = some (.int .u8 (s : Int))

theorem PadW.drewN {w wr : World} {a : Option Addr} {n cap : Nat} {wd : Int} {c s : Nat} (h : PadW w wr a n cap wd c s) (m : Nat) : PadW w (wr.drewN m) a n cap wd c s :=
  ⟨below_drewN h.1 m, by simpa using h.2⟩

theorem padW_start (w : World) (a : Option Addr) (n cap : Nat) (wd : Int) (c s : Nat) :
    PadW w ((w.alloc (Obj.cells #[Value.slice none 0 0, Value.int IntKind.i64 0, Value.int IntKind.u64 0, Value.slice none 0 0, Value.slice a n cap, Value.int IntKind.i64 0, Value.int IntKind.i64 0] 43)).alloc
      (Obj.cells #[Value.int IntKind.i32 0, Value.int IntKind.i32 0, Value.int IntKind.i32 wd, Value.int IntKind.u8 ↑c, Value.int IntKind.u8 ↑s] 47)) a n cap wd c s := by
  refine ⟨((Below.refl _ _).alloc (Nat.le_refl _) _).alloc (by simp) _, ?_, ?_, ?_, ?_⟩
  · rw [World.cell?_alloc_past _ _ _ (by simp), World.cell?_alloc_at _ _ _ _ rfl]; rfl
  · rw [World.cell?_alloc_at _ _ _ _ (by simp)]; rfl
  · rw [World.cell?_alloc_at _ _ _ _ (by simp)]; rfl
  · rw [World.cell?_alloc_at _ _ _ _ (by simp)]; rfl

theorem padOf_spread (a : Option Addr) (cap : Nat) (zs : List Int) (wd : Int) (c s : Nat) (w : World) (h : Row .i64 w a zs) (hz : ∀ i, 0 ≤ zs.getD i 0 ∧ zs.getD i 0 ≤ 1048576) (hl : zs.length ≤ 65536)
    (hw0 : 0 ≤ wd) (hw1 : wd ≤ 2147483647) (hs : 1 ≤ s) (hcs : c + s ≤ 255) :
    Calls Try.prog 17 #[.slice a zs.length cap, .int .i32 wd, .int .u8 (c : Int), .int .u8 (s : Int)] w fun e w' => e = .returned (.int .i64 (max (2 * ((s : Int) - 1) + sumW zs c s - wd) 0)) ∧ Below w.heap.size w w' := by
  have hs0 : ((s : Int) == 0) = false := by simp; omega
  go_enter Try.func17, Try.ntmps17
  go_wp2
  go_loopw [5, 6] (fun t i wr => ∃ k : Nat, k ≤ s ∧ i = .int .i64 ((c : Int) + k) ∧ t = .int .i64 (2 * ((s : Int) - 1) + sumW zs c k) ∧ PadW w wr a zs.length cap wd c s)
    (fun _ i _ => c + s - (intOf i).toNat)
  case atStart => exact ⟨0, Nat.zero_le _, by simp, by simp [sumW], padW_start w a zs.length cap wd c s⟩
  case round =>
    obtain ⟨k, hk, rfl, rfl, hp⟩ := hrel
    have hbd := sumW_bd zs c hz k
    have HP : Hid (PadW w wr a zs.length cap wd c s) := hp
    obtain ⟨hbel, p0, p2, p3, p4⟩ := hp
    by_cases hlt : k < s
    · have hg1 : (c : Int) + k < c + s := by omega
      by_cases hin : c + k < zs.length
      · have hg2 : (c : Int) + k < zs.length := by omega
        rcases h.below hbel with h | ⟨b, off, rfl, hc⟩
        · simp [h] at hin
        have hck := hc (c + k) hin
        have hzk := hz (c + k)
        obtain ⟨z, hzd⟩ : ∃ z, zs.getD (c + k) 0 = z := ⟨_, rfl⟩
        rw [hzd] at hck hzk
        have HZ : Hid (zs.getD (c + k) 0 = z) := hzd
        clear hc hbel hz hzd
        go_wp2
        go_quiet (fail)
        go_wp2
        go_roundw
        case rel => exact ⟨k + 1, by omega, by go_num, by rw [sumW, HZ.out]; go_num, HP.out.drewN _⟩
        case measure => simp [intOf]; omega
      · have hd : decide ((c : Int) + k < zs.length) = false := by simp; omega
        have hfin : sumW zs c s = sumW zs c k := by
          obtain ⟨j, rfl⟩ : ∃ j, s = k + j := ⟨s - k, by omega⟩
          exact sumW_past zs c k (by omega) j
        have HF : Hid (sumW zs c s = sumW zs c k) := hfin
        clear hfin hz h
        go_wp2
        go_quiet (fail)
        go_wp2
        all_goals go_ret
        all_goals rw [HF.out]
        all_goals exact ⟨ret_int (by omega), (HP.out.drewN _).1⟩
    · have hd : decide ((c : Int) + k < c + s) = false := by simp; omega
      obtain rfl : k = s := by omega
      clear hz h
      go_wp2
      go_quiet (fail)
      go_wp2
      all_goals go_ret
      all_goals exact ⟨ret_int (by omega), (HP.out.drewN _).1⟩

/-- padOf of a spreading cell, its arguments as plain letters. -/
theorem padOf_spread' (a : Option Addr) (n cap : Nat) (zs : List Int) (hn : zs.length = n) (wd ci si : Int) (c s : Nat) (hc : ci = (c : Int)) (hsi : si = (s : Int)) (w : World) (h : Row .i64 w a zs) (hz : ∀ i, 0 ≤ zs.getD i 0 ∧ zs.getD i 0 ≤ 1048576) (hl : n ≤ 65536)
    (hw0 : 0 ≤ wd) (hw1 : wd ≤ 2147483647) (hs : 1 ≤ s) (hcs : c + s ≤ 255) :
    Calls Try.prog 17 #[.slice a n cap, .int .i32 wd, .int .u8 ci, .int .u8 si] w fun e w' => ∃ p : Int, e = .returned (.int .i64 p) ∧ Hid (p = max (2 * ((s : Int) - 1) + sumW zs c s - wd) 0) ∧ Below w.heap.size w w' := by
  subst hn hc hsi
  refine (padOf_spread a cap zs wd c s w h hz hl hw0 hw1 hs hcs).mono ?_
  rintro e w' ⟨rfl, hb⟩
  exact ⟨_, rfl, rfl, hb⟩

end Go.Proofs.Qxb6605303a
