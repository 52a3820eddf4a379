/- The walks of zzClone, zzCloneRunes, zzEqual, zzShortEscape, zzLowerHex, zzDecodeEscape. -/
import Derived.Test.Qxb6605303aEsc
namespace Go.Proofs.Qxb6605303a
open Go.RowKit
set_option linter.unusedVariables false

theorem Try.info21 : (Try.prog.info? 21).map (fun i => (i.zero, i.size, i.bytes)) = some (some (.int .i32 0), 1, 4) := by kernel_rfl

theorem clone_any (a : Option Addr) (len cap : Nat) (zs : List Int) (w : World) (h : InRow .u8 w a len cap zs) (hlen : len ≤ 1048576) :
    Calls Try.prog 8 #[.slice a len cap] w fun e w' => ∃ a', e = .returned (.slice a' len len) ∧ w'.ownsRow w.heap.size 5 1 (.slice a' len len) len ((zs.take len).map (Value.int .u8)) ∧ Below w.heap.size w w' := by
  have q22 : ∀ (w : World) (a : Option Addr) (n c n' c' : Nat), (binOp .eql 22 (.slice a n c) (.slice none n' c')).run Try.prog w = .ok (.bool a.isNone) w := fun w a n c n' c' => Lib.run_eql_slice_nil w _ _ a n c n' c' Try.underlying22
  have hr := h.row
  cases a with
  | none =>
    rcases h with ⟨_, rfl, rfl, rfl⟩ | ⟨x, hx, _⟩
    · clear hr
      go_enter Try.func8, Try.ntmps8
      go_wp2
      go_ret
      exact ⟨none, rfl, World.ownsRow_nil _ _ _ _, Below.refl _ _⟩
    · simp at hx
  | some x =>
    obtain ⟨W1, W2, hmk, hcp, hown, hbel⟩ := clone_runs (P := Try.prog) 22 5 .u8 1 Try.underlying22 Try.info5 w x len cap (zs.take len) hr.2 hr.1 (by omega) (by unfold maxLen; omega)
    clear hr h
    go_enter Try.func8, Try.ntmps8
    go_wp2
    go_ret
    exact ⟨_, rfl, hown, hbel⟩

theorem cloneRunes_any (a : Option Addr) (len cap : Nat) (zs : List Int) (w : World) (h : InRow .i32 w a len cap zs) (hlen : len ≤ 1048576) :
    Calls Try.prog 14 #[.slice a len cap] w fun e w' => ∃ a', e = .returned (.slice a' len len) ∧ w'.ownsRow w.heap.size 21 1 (.slice a' len len) len ((zs.take len).map (Value.int .i32)) ∧ Below w.heap.size w w' := by
  have q30 : ∀ (w : World) (a : Option Addr) (n c n' c' : Nat), (binOp .eql 30 (.slice a n c) (.slice none n' c')).run Try.prog w = .ok (.bool a.isNone) w := fun w a n c n' c' => Lib.run_eql_slice_nil w _ _ a n c n' c' Try.underlying30
  have hr := h.row
  cases a with
  | none =>
    rcases h with ⟨_, rfl, rfl, rfl⟩ | ⟨x, hx, _⟩
    · clear hr
      go_enter Try.func14, Try.ntmps14
      go_wp2
      go_ret
      exact ⟨none, rfl, World.ownsRow_nil _ _ _ _, Below.refl _ _⟩
    · simp at hx
  | some x =>
    obtain ⟨W1, W2, hmk, hcp, hown, hbel⟩ := clone_runs (P := Try.prog) 30 21 .i32 4 Try.underlying30 Try.info21 w x len cap (zs.take len) hr.2 hr.1 (by omega) (by unfold maxLen; omega)
    clear hr h
    go_enter Try.func14, Try.ntmps14
    go_wp2
    go_ret
    exact ⟨_, rfl, hown, hbel⟩

/-- A slice that the call owns, cloned again: as 'InRow' has it. -/
theorem owns_in {k : IntKind} {w : World} {base : Nat} {e : TypeId} {a : Option Addr} {len : Nat} {zs : List Int} (h : w.ownsRow base e 1 (.slice a len len) len (zs.map (Value.int k))) (hwf : ∀ n ∈ zs, (Lit.int k n).wf = true) : InRow k w a len len zs := by
  have hl : zs.length = len := by simpa using h.1
  rcases h.2 with ⟨h1, h2⟩ | ⟨g, cp, cur, hv, hb, hg, hn, hm, hcs, htake⟩
  · left
    simp only [Value.slice.injEq] at h1
    refine ⟨h1.1, h2, h2, List.eq_nil_of_length_eq_zero (by omega)⟩
  · right
    simp only [Value.slice.injEq, true_and] at hv
    obtain ⟨rfl, rfl⟩ := hv
    refine ⟨_, rfl, Nat.le_refl _, hm, hl, fun i hi => ?_, hwf⟩
    have := h.cellAt i (by omega)
    rw [Addr.add_lit, Nat.zero_add, this]
    simp [List.getD, hi]

/-- zzEqual at two rows of the same bytes. -/
theorem equal_same (a b : Option Addr) (n ca cb : Nat) (zs : List Int) (hn : zs.length = n) (hn2 : n ≤ 16777216) (w : World) (ha : Row .u8 w a zs) (hb : Row .u8 w b zs) :
    Calls Try.prog 10 #[.slice a n ca, .slice b n cb] w fun e w' => e = .returned (.bool true) ∧ ∃ m, w' = w.drewN m := by
  have HA : Hid (Row .u8 w a zs) := ha
  have HB : Hid (Row .u8 w b zs) := hb
  have HL : Hid (zs.length = n) := hn
  clear ha hb hn
  go_enter Try.func10, Try.ntmps10
  go_wp2
  go_loopw [5] (fun i wr => ∃ k : Nat, k ≤ n ∧ i = .int .i64 k ∧ ∃ m, wr = w.drewN m) (fun i _ => n - (intOf i).toNat)
  case atStart => exact ⟨0, Nat.zero_le _, rfl, 0, rfl⟩
  case round =>
    obtain ⟨k, hk, rfl, m, rfl⟩ := hrel
    by_cases hlt : k < n
    · obtain ⟨b1, o1, rfl, c1⟩ : ∃ b off, a = some ⟨b, off, none⟩ ∧ w.cell? ⟨b, off + k, none⟩ = some (.int .u8 (zs.getD k 0)) := by
        rcases HA.out with h | ⟨b, off, h1, h2⟩
        · have := HL.out; rw [h] at this; simp at this; omega
        · exact ⟨b, off, h1, h2 k (by rw [HL.out]; exact hlt)⟩
      obtain ⟨b2, o2, rfl, c2⟩ : ∃ b' off, b = some ⟨b', off, none⟩ ∧ w.cell? ⟨b', off + k, none⟩ = some (.int .u8 (zs.getD k 0)) := by
        rcases HB.out with h | ⟨b, off, h1, h2⟩
        · have := HL.out; rw [h] at this; simp at this; omega
        · exact ⟨b, off, h1, h2 k (by rw [HL.out]; exact hlt)⟩
      obtain ⟨z, hz⟩ : ∃ z, zs.getD k 0 = z := ⟨_, rfl⟩
      rw [hz] at c1 c2
      clear hz
      have hlt' : (k : Int) < n := by omega
      go_wp2
      go_quiet (fail)
      go_wp2
      go_roundw
      case rel => exact ⟨k + 1, by omega, by go_num, _, rfl⟩
      case measure => simp [intOf]; omega
    · obtain rfl : k = n := by omega
      go_wp2
      go_ret
      exact ⟨rfl, m, rfl⟩

theorem hexD_bd (d : Nat) (hd : d < 16) : 48 ≤ hexD d ∧ hexD d ≤ 102 := by unfold hexD; split <;> omega

theorem lowerHex_any (y : Int) (d : Nat) (hd : d < 16) (hy : y = hexD d) (w : World) :
    Calls Try.prog 21 #[.int .u8 y] w fun e w' => e = .returned (.int .i64 (d : Int)) ∧ w = w' := by
  by_cases h : d < 10
  · have e : y = 48 + (d : Int) := by rw [hy]; unfold hexD; rw [if_pos h]
    subst e
    clear hy
    go_enter Try.func21, Try.ntmps21
    go_wp2
    go_ret
    exact ⟨ret_int (by omega), rfl⟩
  · have e : y = 87 + (d : Int) := by rw [hy]; unfold hexD; rw [if_neg h]
    subst e
    clear hy
    go_enter Try.func21, Try.ntmps21
    go_wp2
    go_ret
    exact ⟨ret_int (by omega), rfl⟩

/-- A short escape, read back. -/
theorem decode_short (b off n cap p : Nat) (ch r : Int) (hr : (ch = 34 ∧ r = 34) ∨ (ch = 92 ∧ r = 92) ∨ (ch = 98 ∧ r = 8) ∨ (ch = 102 ∧ r = 12) ∨ (ch = 110 ∧ r = 10) ∨ (ch = 114 ∧ r = 13) ∨ (ch = 116 ∧ r = 9)) (w : World)
    (hn : n ≤ 16777216) (hfit : p + 2 ≤ n) (c0 : w.cell? ⟨b, off + p, none⟩ = some (.int .u8 92)) (c1 : w.cell? ⟨b, off + (p + 1), none⟩ = some (.int .u8 ch)) :
    Calls Try.prog 12 #[.slice (some ⟨b, off, none⟩) n cap, .int .i64 (p : Int)] w fun e w' => e = .returned (.tuple #[.int .i32 r, .int .i64 2, .bool true]) ∧ w = w' := by
  rcases hr with ⟨rfl, rfl⟩ | ⟨rfl, rfl⟩ | ⟨rfl, rfl⟩ | ⟨rfl, rfl⟩ | ⟨rfl, rfl⟩ | ⟨rfl, rfl⟩ | ⟨rfl, rfl⟩
  all_goals
    go_enter Try.func12, Try.ntmps12
    go_wp2
    go_ret3
    exact ⟨rfl, rfl⟩

/-- A long escape, read back. -/
theorem decode_long (b off n cap p : Nat) (d3 d2 d1 d0 : Nat) (h3 : d3 < 16) (h2 : d2 < 16) (h1 : d1 < 16) (h0 : d0 < 16) (w : World)
    (hn : n ≤ 16777216) (hfit : p + 6 ≤ n) (c0 : w.cell? ⟨b, off + p, none⟩ = some (.int .u8 92)) (c1 : w.cell? ⟨b, off + (p + 1), none⟩ = some (.int .u8 117))
    (c2 : w.cell? ⟨b, off + (p + 2), none⟩ = some (.int .u8 (hexD d3))) (c3 : w.cell? ⟨b, off + (p + 3), none⟩ = some (.int .u8 (hexD d2))) (c4 : w.cell? ⟨b, off + (p + 4), none⟩ = some (.int .u8 (hexD d1))) (c5 : w.cell? ⟨b, off + (p + 5), none⟩ = some (.int .u8 (hexD d0))) :
    Calls Try.prog 12 #[.slice (some ⟨b, off, none⟩) n cap, .int .i64 (p : Int)] w fun e w' => e = .returned (.tuple #[.int .i32 ((((d3 : Int) * 16 + d2) * 16 + d1) * 16 + d0), .int .i64 6, .bool true]) ∧ w = w' := by
  obtain ⟨y3, hy3⟩ : ∃ y, hexD d3 = y := ⟨_, rfl⟩
  obtain ⟨y2, hy2⟩ : ∃ y, hexD d2 = y := ⟨_, rfl⟩
  obtain ⟨y1, hy1⟩ : ∃ y, hexD d1 = y := ⟨_, rfl⟩
  obtain ⟨y0, hy0⟩ : ∃ y, hexD d0 = y := ⟨_, rfl⟩
  rw [hy3] at c2
  rw [hy2] at c3
  rw [hy1] at c4
  rw [hy0] at c5
  have Y3 : Hid (y3 = hexD d3) := hy3.symm
  have Y2 : Hid (y2 = hexD d2) := hy2.symm
  have Y1 : Hid (y1 = hexD d1) := hy1.symm
  have Y0 : Hid (y0 = hexD d0) := hy0.symm
  clear hy3 hy2 hy1 hy0
  go_enter Try.func12, Try.ntmps12
  go_wp2
  go_loop [7, 8] (fun t i => (i = .int .i64 2 ∧ t = .int .i64 0) ∨ (i = .int .i64 3 ∧ t = .int .i64 (d3 : Int)) ∨ (i = .int .i64 4 ∧ t = .int .i64 ((d3 : Int) * 16 + d2)) ∨
      (i = .int .i64 5 ∧ t = .int .i64 (((d3 : Int) * 16 + d2) * 16 + d1)) ∨ (i = .int .i64 6 ∧ t = .int .i64 ((((d3 : Int) * 16 + d2) * 16 + d1) * 16 + d0))) (fun _ i => 6 - (intOf i).toNat)
  case atStart => exact .inl ⟨rfl, rfl⟩
  case round =>
    rcases hrel with ⟨rfl, rfl⟩ | ⟨rfl, rfl⟩ | ⟨rfl, rfl⟩ | ⟨rfl, rfl⟩ | ⟨rfl, rfl⟩
    · go_wp2_with fail
      refine (lowerHex_any y3 d3 h3 Y3.out _).mono ?_
      rintro e w' ⟨rfl, rfl⟩
      go_wp2
      go_round
      case rel => exact .inr (.inl ⟨by go_num, by go_num⟩)
      case measure => simp [intOf]
    · go_wp2_with fail
      refine (lowerHex_any y2 d2 h2 Y2.out _).mono ?_
      rintro e w' ⟨rfl, rfl⟩
      go_wp2
      go_round
      case rel => exact .inr (.inr (.inl ⟨by go_num, by go_num⟩))
      case measure => simp [intOf]
    · go_wp2_with fail
      refine (lowerHex_any y1 d1 h1 Y1.out _).mono ?_
      rintro e w' ⟨rfl, rfl⟩
      go_wp2
      go_round
      case rel => exact .inr (.inr (.inr (.inl ⟨by go_num, by go_num⟩)))
      case measure => simp [intOf]
    · go_wp2_with fail
      refine (lowerHex_any y0 d0 h0 Y0.out _).mono ?_
      rintro e w' ⟨rfl, rfl⟩
      go_wp2
      go_round
      case rel => exact .inr (.inr (.inr (.inr ⟨by go_num, by go_num⟩)))
      case measure => simp [intOf]
    · go_wp2
      go_ret3
      exact ⟨rfl, rfl⟩

end Go.Proofs.Qxb6605303a
