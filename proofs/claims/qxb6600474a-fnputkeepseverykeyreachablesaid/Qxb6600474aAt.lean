/- The walks of ZZAt (at), ZZUsed. -/
import Derived.Test.Qxb6600474aCopy
import Derived.Test.Qxb6600474aIx
namespace Go.Proofs.Qxb6600474a
open Go.RowKit
set_option linter.unusedVariables false

theorem results_tmp5 {fn : Func} {t0 t1 t2 t3 t4 : Tmp} (h : fn.results = #[.tmp t0, .tmp t1, .tmp t2, .tmp t3, .tmp t4]) (tmps : Array Value) (P : Program) (w : World) :
    (results fn tmps).run P w = .ok (.tuple #[tmps.getD t0 undef, tmps.getD t1 undef, tmps.getD t2 undef, tmps.getD t3 undef, tmps.getD t4 undef]) w := by
  simp [results, h]

theorem at13_made (base : Nat) (w : World) (X C S nc size : Nat) (ch : Nat → Option Nat) (cs : Nat → Nat → Int) (used : Nat) (h : Ix base w X C S nc size ch cs used) (i : Nat) (hq : i / 4096 < nc) (hr : i % 4096 < S) (hnc : nc ≤ 16) (hi : i < 65536) (B : Nat) (hB : ch (i / 4096) = some B) :
    Calls Try.prog 13 #[.pointer (some ⟨X, 0, none⟩), .int .i64 (i : Int)] w fun e w' => e = .returned (.pointer (some ⟨B, i % 4096 * 4, none⟩)) ∧ w = w' := by
  have q43 : ∀ (w : World) (a : Option Addr) (n c n' c' : Nat), (binOp .neq 43 (.slice a n c) (.slice none n' c')).run Try.prog w = .ok (.bool (!a.isNone)) w := fun w a n c n' c' => run_neq_slice_nil_any w _ _ a n c n' c' Try.underlying43
  have x0 := h.x0
  have hc := h.c (i / 4096) hq
  rw [hB, chv] at hc
  have hq' : (i : Int) / 4096 < nc := by omega
  have hr' : (i : Int) % 4096 < S := by omega
  clear h hB
  go_enter Try.func13, Try.ntmps13
  go_wp2
  go_ret
  exact ⟨rfl, rfl⟩

theorem at13_none (base : Nat) (w : World) (X C S nc size : Nat) (ch : Nat → Option Nat) (cs : Nat → Nat → Int) (used : Nat) (h : Ix base w X C S nc size ch cs used) (i : Nat) (hq : i / 4096 < nc) (hnc : nc ≤ 16) (hi : i < 65536) (hB : ch (i / 4096) = none) :
    Calls Try.prog 13 #[.pointer (some ⟨X, 0, none⟩), .int .i64 (i : Int)] w fun e w' => e = .returned (.pointer none) ∧ w = w' := by
  have q43 : ∀ (w : World) (a : Option Addr) (n c n' c' : Nat), (binOp .neq 43 (.slice a n c) (.slice none n' c')).run Try.prog w = .ok (.bool (!a.isNone)) w := fun w a n c n' c' => run_neq_slice_nil_any w _ _ a n c n' c' Try.underlying43
  have x0 := h.x0
  have hc := h.c (i / 4096) hq
  rw [hB, chv] at hc
  have hq' : (i : Int) / 4096 < nc := by omega
  clear h hB
  go_enter Try.func13, Try.ntmps13
  go_wp2
  go_ret
  exact ⟨rfl, rfl⟩

/-- What a call of ZZAt leaves. -/
def AtPost (made : Bool) (y0 y1 y2 y3 : Int) (w : World) (e : Ending) (w' : World) : Prop := e = .returned (.tuple #[.bool made, .int .u64 y0, .int .i64 y1, .int .i64 y2, .int .i64 y3]) ∧ ∃ m, w' = w.drewN m

theorem at_made (base : Nat) (w : World) (X C S nc size : Nat) (ch : Nat → Option Nat) (cs : Nat → Nat → Int) (used : Nat) (h : Ix base w X C S nc size ch cs used) (i : Nat) (hq : i / 4096 < nc) (hr : i % 4096 < S) (hnc : nc ≤ 16) (hi : i < 65536) (B : Nat) (hB : ch (i / 4096) = some B) :
    Calls Try.prog 8 #[.pointer (some ⟨X, 0, none⟩), .int .i64 (i : Int)] w (AtPost true (cs i 0) (cs i 1) (cs i 2) (cs i 3) w) := by
  have H13 : Hid (Calls Try.prog 13 #[.pointer (some ⟨X, 0, none⟩), .int .i64 (i : Int)] w fun e w' => e = .returned (.pointer (some ⟨B, i % 4096 * 4, none⟩)) ∧ w = w') := at13_made base w X C S nc size ch cs used h i hq hr hnc hi B hB
  have hidx : 4096 * (i / 4096) + i % 4096 = i := by omega
  have b0 := h.b (i / 4096) hq B hB (i % 4096) hr 0 (by omega)
  have b1 := h.b (i / 4096) hq B hB (i % 4096) hr 1 (by omega)
  have b2 := h.b (i / 4096) hq B hB (i % 4096) hr 2 (by omega)
  have b3 := h.b (i / 4096) hq B hB (i % 4096) hr 3 (by omega)
  rw [hidx] at b0 b1 b2 b3
  obtain ⟨y0, e0⟩ : ∃ y, cs i 0 = y := ⟨_, rfl⟩
  obtain ⟨y1, e1⟩ : ∃ y, cs i 1 = y := ⟨_, rfl⟩
  obtain ⟨y2, e2⟩ : ∃ y, cs i 2 = y := ⟨_, rfl⟩
  obtain ⟨y3, e3⟩ : ∃ y, cs i 3 = y := ⟨_, rfl⟩
  rw [e0] at b0 ⊢
  rw [e1] at b1 ⊢
  rw [e2] at b2 ⊢
  rw [e3] at b3 ⊢
  simp only [kd, if_true, if_neg (show ¬ (1 : Nat) = 0 by omega), if_neg (show ¬ (2 : Nat) = 0 by omega), if_neg (show ¬ (3 : Nat) = 0 by omega), Nat.add_zero] at b0 b1 b2 b3
  generalize i % 4096 * 4 = o at *
  clear h hidx e0 e1 e2 e3 hB
  go_enter Try.func8, Try.ntmps8
  go_wp2_with fail
  refine H13.out.mono ?_
  rintro e w' ⟨rfl, rfl⟩
  go_wp2
  go_quiet (fail)
  go_wp2
  refine bodyPost_ret (results_tmp5 rfl _ _ _) rfl ?_
  exact ⟨rfl, _, rfl⟩

theorem at_none (base : Nat) (w : World) (X C S nc size : Nat) (ch : Nat → Option Nat) (cs : Nat → Nat → Int) (used : Nat) (h : Ix base w X C S nc size ch cs used) (i : Nat) (hq : i / 4096 < nc) (hnc : nc ≤ 16) (hi : i < 65536) (hB : ch (i / 4096) = none) :
    Calls Try.prog 8 #[.pointer (some ⟨X, 0, none⟩), .int .i64 (i : Int)] w (AtPost false 0 0 0 0 w) := by
  have H13 : Hid (Calls Try.prog 13 #[.pointer (some ⟨X, 0, none⟩), .int .i64 (i : Int)] w fun e w' => e = .returned (.pointer none) ∧ w = w') := at13_none base w X C S nc size ch cs used h i hq hnc hi hB
  clear h hB
  go_enter Try.func8, Try.ntmps8
  go_wp2_with fail
  refine H13.out.mono ?_
  rintro e w' ⟨rfl, rfl⟩
  go_wp2
  refine bodyPost_ret (results_tmp5 rfl _ _ _) rfl ?_
  exact ⟨rfl, 0, rfl⟩

/-- ZZAt at whatever slot: what its fields hold; not made only where nothing is held. -/
theorem at_any (base : Nat) (w : World) (X C S nc size : Nat) (ch : Nat → Option Nat) (cs : Nat → Nat → Int) (used : Nat) (h : Ix base w X C S nc size ch cs used) (i : Nat) (ii : Int) (hii : ii = (i : Int)) (hq : i / 4096 < nc) (hr : i % 4096 < S) (hnc : nc ≤ 16) (hi : i < 65536) :
    Calls Try.prog 8 #[.pointer (some ⟨X, 0, none⟩), .int .i64 ii] w fun e w' => ∃ made : Bool, AtPost made (cs i 0) (cs i 1) (cs i 2) (cs i 3) w e w' ∧ (made = false → cs i 1 = 0) := by
  subst hii
  cases hB : ch (i / 4096) with
  | some B => exact (at_made base w X C S nc size ch cs used h i hq hr hnc hi B hB).mono fun e w' hp => ⟨true, hp, fun h => by cases h⟩
  | none =>
    have hf := h.free (i / 4096) hq hB (i % 4096) hr
    rw [show 4096 * (i / 4096) + i % 4096 = i by omega] at hf
    exact (at_none base w X C S nc size ch cs used h i hq hnc hi hB).mono fun e w' hp => ⟨false, by rw [hf 0, hf 1, hf 2, hf 3]; exact hp, fun _ => hf 1⟩

theorem used_any (base : Nat) (w : World) (X C S nc size : Nat) (ch : Nat → Option Nat) (cs : Nat → Nat → Int) (used : Nat) (h : Ix base w X C S nc size ch cs used) :
    Calls Try.prog 9 #[.pointer (some ⟨X, 0, none⟩)] w fun e w' => e = .returned (.int .i64 (used : Int)) ∧ w = w' := by
  have x2 := h.x2
  clear h
  go_enter Try.func9, Try.ntmps9
  go_wp2
  go_ret
  exact ⟨rfl, rfl⟩

end Go.Proofs.Qxb6600474a
