/- Plain laws: masks; cyclic steps; the count of occupied slots; linear probing. -/
import Derived.Test.Qxb6600474aIx
namespace Go.Proofs.Qxb6600474a
open Go.RowKit
set_option linter.unusedVariables false

theorem and_toNat (x : Int) (u m : Nat) (hx : (x % 18446744073709551616).toNat = u) (hm : m ≤ 65535) : bits .and .i64 x (m : Int) = ((u &&& m : Nat) : Int) := by
  have h1 : (u &&& m : Nat) ≤ m := Nat.and_le_right
  have e : bits .and .i64 x (m : Int) = IntKind.i64.wrap (((BitVec.ofInt 64 x).toNat &&& (BitVec.ofInt 64 (m : Int)).toNat : Nat) : Int) := by
    simp only [bits, BitVec.toNat_and]; rfl
  have e1 : (BitVec.ofInt 64 x).toNat = u := by rw [BitVec.toNat_ofInt]; exact hx
  have e2 : (BitVec.ofInt 64 (m : Int)).toNat = m := by rw [BitVec.toNat_ofInt]; omega
  rw [e, e1, e2, IntKind.wrap_i64]
  omega

theorem mask_mod (x : Int) (u : Nat) (hx : (x % 18446744073709551616).toNat = u) (e : Nat) (he : e ≤ 16) (size : Nat) (hs : 2 ^ e = size) : bits .and .i64 x ((size : Int) - 1) = ((u % size : Nat) : Int) := by
  have hp : 0 < 2 ^ e := Nat.two_pow_pos e
  have hle : 2 ^ e ≤ 2 ^ 16 := Nat.pow_le_pow_right (by omega) he
  have h16 : (2 : Nat) ^ 16 = 65536 := rfl
  have e1 : ((size : Int) - 1) = ((size - 1 : Nat) : Int) := by omega
  rw [e1, and_toNat x u (size - 1) hx (by omega), ← hs, Nat.and_two_pow_sub_one_eq_mod]

/-- int(hash) & mask -/
theorem mask_hash (h : Nat) (hh : h < 18446744073709551616) (e : Nat) (he : e ≤ 16) (size : Nat) (hs : 2 ^ e = size) : bits .and .i64 (wrap64 (h : Int)) ((size : Int) - 1) = ((h % size : Nat) : Int) :=
  mask_mod _ h (by unfold wrap64; omega) e he size hs

/-- (p + 1) & mask -/
theorem mask_next (p : Nat) (hp : p < 65536) (e : Nat) (he : e ≤ 16) (size : Nat) (hs : 2 ^ e = size) : bits .and .i64 ((p : Int) + 1) ((size : Int) - 1) = (((p + 1) % size : Nat) : Int) :=
  mask_mod _ (p + 1) (by omega) e he size hs

theorem next_mod (home t size : Nat) : ((home + t) % size + 1) % size = (home + (t + 1)) % size := by
  rw [← Nat.add_assoc, Nat.add_mod ((home + t) % size) 1, Nat.mod_mod, ← Nat.add_mod]

/-- How many of the first n slots are taken. -/
def cnt (cs : Nat → Nat → Int) : Nat → Nat
  | 0 => 0
  | n + 1 => cnt cs n + (if cs n 1 = 0 then 0 else 1)

theorem cnt_le (cs : Nat → Nat → Int) : ∀ n, cnt cs n ≤ n := by
  intro n
  induction n with
  | zero => simp [cnt]
  | succ n ih => simp only [cnt]; split <;> omega

theorem cnt_free (cs : Nat → Nat → Int) : ∀ n, cnt cs n < n → ∃ i, i < n ∧ cs i 1 = 0 := by
  intro n
  induction n with
  | zero => intro h; omega
  | succ n ih =>
    intro h
    by_cases h0 : cs n 1 = 0
    · exact ⟨n, by omega, h0⟩
    · simp only [cnt, if_neg h0] at h
      obtain ⟨i, hi, hc⟩ := ih (by omega)
      exact ⟨i, by omega, hc⟩

/-- A whole slot set. -/
def updS (cs : Nat → Nat → Int) (p : Nat) (h n o v : Int) : Nat → Nat → Int := updF (updF (updF (updF cs p 0 h) p 1 n) p 2 o) p 3 v

theorem updS_other (cs : Nat → Nat → Int) (p : Nat) (h n o v : Int) (i f : Nat) (hi : i ≠ p) : updS cs p h n o v i f = cs i f := by simp [updS, updF, hi]
theorem updS_1 (cs : Nat → Nat → Int) (p : Nat) (h n o v : Int) : updS cs p h n o v p 1 = n := by simp [updS, updF]
theorem updS_2 (cs : Nat → Nat → Int) (p : Nat) (h n o v : Int) : updS cs p h n o v p 2 = o := by simp [updS, updF]

theorem cnt_upd_past (cs : Nat → Nat → Int) (p : Nat) (h n o v : Int) : ∀ m, m ≤ p → cnt (updS cs p h n o v) m = cnt cs m := by
  intro m
  induction m with
  | zero => intro _; rfl
  | succ m ih =>
    intro hm
    simp only [cnt]
    rw [ih (by omega), updS_other _ _ _ _ _ _ _ _ (by omega)]

theorem cnt_upd (cs : Nat → Nat → Int) (p : Nat) (h n o v : Int) (hn : n ≠ 0) (hp : cs p 1 = 0) : ∀ m, p < m → cnt (updS cs p h n o v) m = cnt cs m + 1 := by
  intro m
  induction m with
  | zero => intro h; omega
  | succ m ih =>
    intro hm
    simp only [cnt]
    by_cases e : m = p
    · subst e
      rw [cnt_upd_past _ _ _ _ _ _ m (Nat.le_refl _), updS_1, if_neg hn, if_pos hp]
    · rw [ih (by omega), updS_other _ _ _ _ _ _ _ _ e]
      omega

/-- The least number with a property. -/
theorem exists_least (P : Nat → Prop) (n : Nat) (h : P n) : ∃ T, T ≤ n ∧ P T ∧ ∀ t, t < T → ¬ P t := by
  induction n using Nat.strongRecOn with
  | _ n ih =>
    by_cases hc : ∃ m, m < n ∧ P m
    · obtain ⟨m, hm, hP⟩ := hc
      obtain ⟨T, h1, h2, h3⟩ := ih m hm hP
      exact ⟨T, by omega, h2, h3⟩
    · exact ⟨n, Nat.le_refl _, h, fun t ht hP => hc ⟨t, ht, hP⟩⟩

theorem reach_step (home size i : Nat) (hs : 0 < size) (hh : home < size) (hi : i < size) : ∃ t, t < size ∧ (home + t) % size = i := by
  by_cases h : home ≤ i
  · exact ⟨i - home, by omega, by rw [show home + (i - home) = i by omega]; exact Nat.mod_eq_of_lt hi⟩
  · refine ⟨i + size - home, by omega, ?_⟩
    rw [show home + (i + size - home) = i + size by omega, Nat.add_mod_right]
    exact Nat.mod_eq_of_lt hi

/-- From whatever home: the first free slot. -/
theorem first_free (cs : Nat → Nat → Int) (home size : Nat) (hh : home < size) (hc : cnt cs size < size) : ∃ T, T < size ∧ cs ((home + T) % size) 1 = 0 ∧ ∀ t, t < T → cs ((home + t) % size) 1 ≠ 0 := by
  obtain ⟨i, hi, h0⟩ := cnt_free cs size hc
  obtain ⟨t, ht, e⟩ := reach_step home size i (by omega) hh hi
  obtain ⟨T, h1, h2, h3⟩ := exists_least (fun t => cs ((home + t) % size) 1 = 0) t (by show cs _ 1 = 0; rw [e]; exact h0)
  exact ⟨T, by omega, h2, h3⟩

/-- After j puts: each can be reached from its home over taken slots; j slots are taken. -/
def Filled (hs : List Nat) (size : Nat) (cs : Nat → Nat → Int) (j : Nat) : Prop :=
  cnt cs size = j ∧ ∀ p, p < j → ∃ T, T < size ∧ cs ((hs.getD p 0 % size + T) % size) 1 = (p : Int) + 1 ∧ cs ((hs.getD p 0 % size + T) % size) 2 = (p : Int) ∧ ∀ t, t < T → cs ((hs.getD p 0 % size + t) % size) 1 ≠ 0

theorem Filled.start (hs : List Nat) (size : Nat) : Filled hs size (fun _ _ => 0) 0 := by
  refine ⟨?_, fun p hp => absurd hp (by omega)⟩
  induction size with
  | zero => rfl
  | succ n ih => simp [cnt, ih]

theorem Filled.put {hs : List Nat} {size : Nat} {cs : Nat → Nat → Int} {j : Nat} (h : Filled hs size cs j) (hpos : 0 < size) (T : Nat) (hT : T < size) (hf : cs ((hs.getD j 0 % size + T) % size) 1 = 0) (ht : ∀ t, t < T → cs ((hs.getD j 0 % size + t) % size) 1 ≠ 0) (hv v : Int) :
    Filled hs size (updS cs ((hs.getD j 0 % size + T) % size) hv ((j : Int) + 1) (j : Int) v) (j + 1) := by
  have hp : (hs.getD j 0 % size + T) % size < size := Nat.mod_lt _ hpos
  refine ⟨by rw [cnt_upd _ _ _ _ _ _ (by omega) hf size hp, h.1], fun p hpj => ?_⟩
  by_cases e : p = j
  · subst e
    refine ⟨T, hT, updS_1 .., updS_2 .., fun t htT => ?_⟩
    by_cases e2 : (hs.getD p 0 % size + t) % size = (hs.getD p 0 % size + T) % size
    · rw [e2, updS_1]; omega
    · rw [updS_other _ _ _ _ _ _ _ _ e2]; exact ht t htT
  · obtain ⟨T', hT', h1, h2, h3⟩ := h.2 p (by omega)
    have hne : (hs.getD p 0 % size + T') % size ≠ (hs.getD j 0 % size + T) % size := by
      intro e2; rw [e2, hf] at h1; omega
    refine ⟨T', hT', by rw [updS_other _ _ _ _ _ _ _ _ hne]; exact h1, by rw [updS_other _ _ _ _ _ _ _ _ hne]; exact h2, fun t htT => ?_⟩
    by_cases e2 : (hs.getD p 0 % size + t) % size = (hs.getD j 0 % size + T) % size
    · rw [e2, updS_1]; omega
    · rw [updS_other _ _ _ _ _ _ _ _ e2]; exact h3 t htT

end Go.Proofs.Qxb6600474a
