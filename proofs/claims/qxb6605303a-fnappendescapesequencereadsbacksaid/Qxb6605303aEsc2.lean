/- ZZappendEscape and zzDecodeEscape for every rune of the plane, by 'esc'; zzShortEscape. -/
import Derived.Test.Qxb6605303aDec
namespace Go.Proofs.Qxb6605303a
open Go.RowKit
set_option linter.unusedVariables false

theorem esc_cases (r : Nat) (hr : r ≤ 65535) :
    ((r = 34 ∧ esc r = [92, 34]) ∨ (r = 92 ∧ esc r = [92, 92]) ∨ (r = 8 ∧ esc r = [92, 98]) ∨ (r = 12 ∧ esc r = [92, 102]) ∨ (r = 10 ∧ esc r = [92, 110]) ∨ (r = 13 ∧ esc r = [92, 114]) ∨ (r = 9 ∧ esc r = [92, 116])) ∨
    ((r ≠ 34 ∧ r ≠ 92 ∧ r ≠ 8 ∧ r ≠ 12 ∧ r ≠ 10 ∧ r ≠ 13 ∧ r ≠ 9) ∧ esc r = [92, 117, hexD (r / 4096), hexD (r / 256 % 16), hexD (r / 16 % 16), hexD (r % 16)]) := by
  by_cases h1 : r = 34
  · subst h1; left; left; exact ⟨rfl, rfl⟩
  by_cases h2 : r = 92
  · subst h2; left; right; left; exact ⟨rfl, rfl⟩
  by_cases h3 : r = 8
  · subst h3; left; right; right; left; exact ⟨rfl, rfl⟩
  by_cases h4 : r = 12
  · subst h4; left; right; right; right; left; exact ⟨rfl, rfl⟩
  by_cases h5 : r = 10
  · subst h5; left; right; right; right; right; left; exact ⟨rfl, rfl⟩
  by_cases h6 : r = 13
  · subst h6; left; right; right; right; right; right; left; exact ⟨rfl, rfl⟩
  by_cases h7 : r = 9
  · subst h7; left; right; right; right; right; right; right; exact ⟨rfl, rfl⟩
  · right
    refine ⟨⟨h1, h2, h3, h4, h5, h6, h7⟩, ?_⟩
    unfold esc
    rw [if_neg h1, if_neg h2, if_neg h3, if_neg h4, if_neg h5, if_neg h6, if_neg h7]

theorem esc_len (r : Nat) (hr : r ≤ 65535) : (esc r).length = 2 ∨ (esc r).length = 6 := by
  rcases esc_cases r hr with (⟨_, h⟩ | ⟨_, h⟩ | ⟨_, h⟩ | ⟨_, h⟩ | ⟨_, h⟩ | ⟨_, h⟩ | ⟨_, h⟩) | ⟨_, h⟩ <;> rw [h] <;> simp

/-- Each byte of an escape is printable ASCII. -/
theorem esc_print (r : Nat) (hr : r ≤ 65535) : ∀ y ∈ esc r, 32 ≤ y ∧ y ≤ 126 := by
  have hx : ∀ d : Nat, d < 16 → 32 ≤ hexD d ∧ hexD d ≤ 126 := fun d hd => by have := hexD_bd d hd; omega
  have x3 := hx (r / 4096) (by omega)
  have x2 := hx (r / 256 % 16) (by omega)
  have x1 := hx (r / 16 % 16) (by omega)
  have x0 := hx (r % 16) (by omega)
  rcases esc_cases r hr with (⟨_, h⟩ | ⟨_, h⟩ | ⟨_, h⟩ | ⟨_, h⟩ | ⟨_, h⟩ | ⟨_, h⟩ | ⟨_, h⟩) | ⟨_, h⟩ <;> rw [h] <;> intro y hy <;> simp at hy
  all_goals first
    | (rcases hy with rfl | rfl <;> omega)
    | (rcases hy with rfl | rfl | rfl | rfl | rfl | rfl <;> omega)
    | omega

theorem appEsc_any (w : World) (base : Nat) (v : Value) (n : Nat) (xs : List Value) (hown : w.ownsRow base 5 1 v n xs) (hn : n + 6 ≤ 16777216) (hbase : base ≤ w.heap.size) (r : Nat) (hr : r ≤ 65535) :
    Calls Try.prog 9 #[v, .int .i32 (r : Int)] w (EscPost w base n xs (esc r)) := by
  have hs := esc_str w base v n xs hown hn hbase
  have h2 := esc_two w base v n xs hown hn hbase
  rcases esc_cases r hr with (⟨e, h⟩ | ⟨e, h⟩ | ⟨e, h⟩ | ⟨e, h⟩ | ⟨e, h⟩ | ⟨e, h⟩ | ⟨e, h⟩) | ⟨⟨a1, a2, a3, a4, a5, a6, a7⟩, h⟩ <;> rw [h]
  · subst e; exact h2.1
  · subst e; exact h2.2
  · subst e; exact hs.1
  · subst e; exact hs.2.1
  · subst e; exact hs.2.2.1
  · subst e; exact hs.2.2.2.1
  · subst e; exact hs.2.2.2.2
  · exact esc_hex w base v n xs hown hn hbase r hr (beq_eq_false_iff_ne.2 (by omega)) (beq_eq_false_iff_ne.2 (by omega)) (beq_eq_false_iff_ne.2 (by omega)) (beq_eq_false_iff_ne.2 (by omega)) (beq_eq_false_iff_ne.2 (by omega)) (beq_eq_false_iff_ne.2 (by omega)) (beq_eq_false_iff_ne.2 (by omega))

theorem decode_any (b off n cap p r : Nat) (pi : Int) (hpi : pi = (p : Int)) (hr : r ≤ 65535) (w : World) (hn : n ≤ 16777216) (hfit : p + (esc r).length ≤ n)
    (hc : ∀ i, i < (esc r).length → w.cell? ⟨b, off + (p + i), none⟩ = some (.int .u8 ((esc r).getD i 0))) :
    Calls Try.prog 12 #[.slice (some ⟨b, off, none⟩) n cap, .int .i64 pi] w fun e w' => e = .returned (.tuple #[.int .i32 (r : Int), .int .i64 ((esc r).length : Int), .bool true]) ∧ w = w' := by
  subst hpi
  rcases esc_cases r hr with h | ⟨_, h⟩
  · have h2 : ∃ ch : Int, esc r = [92, ch] ∧ ((ch = 34 ∧ (r : Int) = 34) ∨ (ch = 92 ∧ (r : Int) = 92) ∨ (ch = 98 ∧ (r : Int) = 8) ∨ (ch = 102 ∧ (r : Int) = 12) ∨ (ch = 110 ∧ (r : Int) = 10) ∨ (ch = 114 ∧ (r : Int) = 13) ∨ (ch = 116 ∧ (r : Int) = 9)) := by
      rcases h with ⟨e, h⟩ | ⟨e, h⟩ | ⟨e, h⟩ | ⟨e, h⟩ | ⟨e, h⟩ | ⟨e, h⟩ | ⟨e, h⟩ <;> exact ⟨_, h, by omega⟩
    obtain ⟨ch, he, hch⟩ := h2
    rw [he] at hc hfit ⊢
    exact decode_short b off n cap p ch r hch w hn (by simpa using hfit) (by simpa using hc 0 (by simp)) (by simpa using hc 1 (by simp))
  · rw [h] at hc hfit ⊢
    have e : ((((r / 4096 : Nat) : Int) * 16 + ((r / 256 % 16 : Nat) : Int)) * 16 + ((r / 16 % 16 : Nat) : Int)) * 16 + ((r % 16 : Nat) : Int) = (r : Int) := by omega
    have := decode_long b off n cap p (r / 4096) (r / 256 % 16) (r / 16 % 16) (r % 16) (by omega) (by omega) (by omega) (by omega) w hn (by simpa using hfit) (by simpa using hc 0 (by simp)) (by simpa using hc 1 (by simp))
      (by simpa using hc 2 (by simp)) (by simpa using hc 3 (by simp)) (by simpa using hc 4 (by simp)) (by simpa using hc 5 (by simp))
    rw [e] at this
    exact this

theorem shortEsc_any (r : Nat) (hr : r ≤ 65535) (w : World) :
    Calls Try.prog 11 #[.int .i32 (r : Int)] w fun e w' => e = .returned (.bool (decide ((esc r).length = 2))) ∧ w = w' := by
  rcases esc_cases r hr with h | ⟨⟨a1, a2, a3, a4, a5, a6, a7⟩, h⟩
  · have hd : decide ((esc r).length = 2) = true := by
      rcases h with ⟨e, h⟩ | ⟨e, h⟩ | ⟨e, h⟩ | ⟨e, h⟩ | ⟨e, h⟩ | ⟨e, h⟩ | ⟨e, h⟩ <;> rw [h] <;> rfl
    rw [hd]
    have h' : r = 34 ∨ r = 92 ∨ r = 8 ∨ r = 12 ∨ r = 10 ∨ r = 13 ∨ r = 9 := by omega
    clear h hd
    rcases h' with rfl | rfl | rfl | rfl | rfl | rfl | rfl
    all_goals
      go_enter Try.func11, Try.ntmps11
      go_wp2
      go_ret
      exact ⟨rfl, rfl⟩
  · have hd : decide ((esc r).length = 2) = false := by rw [h]; rfl
    rw [hd]
    have b1 : ((r : Int) == 34) = false := beq_eq_false_iff_ne.2 (by omega)
    have b2 : ((r : Int) == 92) = false := beq_eq_false_iff_ne.2 (by omega)
    have b3 : ((r : Int) == 8) = false := beq_eq_false_iff_ne.2 (by omega)
    have b4 : ((r : Int) == 12) = false := beq_eq_false_iff_ne.2 (by omega)
    have b5 : ((r : Int) == 10) = false := beq_eq_false_iff_ne.2 (by omega)
    have b6 : ((r : Int) == 13) = false := beq_eq_false_iff_ne.2 (by omega)
    have b7 : ((r : Int) == 9) = false := beq_eq_false_iff_ne.2 (by omega)
    clear a1 a2 a3 a4 a5 a6 a7 h hd
    go_enter Try.func11, Try.ntmps11
    go_wp2
    go_ret
    exact ⟨rfl, rfl⟩

/-- The three contracts with the escape's length as a letter. -/
theorem appEsc' (w : World) (base : Nat) (v : Value) (n : Nat) (zs : List Int) (hown : w.ownsRow base 5 1 v n (zs.map (Value.int .u8))) (hn : n + 6 ≤ 16777216) (hbase : base ≤ w.heap.size) (ri : Int) (r : Nat) (hri : ri = (r : Int)) (hr : r ≤ 65535) (m : Nat) (hm : (esc r).length = m) :
    Calls Try.prog 9 #[v, .int .i32 ri] w fun e w' => ∃ g cap, e = .returned (.slice (some ⟨g, 0, none⟩) (n + m) cap) ∧ w'.ownsRow base 5 1 (.slice (some ⟨g, 0, none⟩) (n + m) cap) (n + m) ((zs ++ esc r).map (Value.int .u8)) ∧ Below base w w' := by
  subst hm hri
  refine (appEsc_any w base v n _ hown hn hbase r hr).mono ?_
  rintro e w' ⟨g, cap, rfl, h1, h2⟩
  exact ⟨g, cap, rfl, by rw [List.map_append]; exact h1, h2⟩

theorem decode' (b off n cap p r : Nat) (pi : Int) (hpi : pi = (p : Int)) (hr : r ≤ 65535) (w : World) (hn : n ≤ 16777216) (m : Nat) (hm : (esc r).length = m) (hfit : p + m ≤ n)
    (hc : ∀ i, i < m → w.cell? ⟨b, off + (p + i), none⟩ = some (.int .u8 ((esc r).getD i 0))) :
    Calls Try.prog 12 #[.slice (some ⟨b, off, none⟩) n cap, .int .i64 pi] w fun e w' => e = .returned (.tuple #[.int .i32 (r : Int), .int .i64 (m : Int), .bool true]) ∧ w = w' := by
  subst hm
  exact decode_any b off n cap p r pi hpi hr w hn hfit hc

theorem shortEsc' (r : Nat) (hr : r ≤ 65535) (m : Nat) (hm : (esc r).length = m) (w : World) :
    Calls Try.prog 11 #[.int .i32 (r : Int)] w fun e w' => e = .returned (.bool (decide (m = 2))) ∧ w = w' := by
  subst hm
  exact shortEsc_any r hr w

end Go.Proofs.Qxb6605303a
