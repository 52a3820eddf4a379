/- The plain law of the sequence of escapes. -/
import Derived.Test.Qxb6605303aEsc2
namespace Go.Proofs.Qxb6605303a

/-- All the escapes, one behind the other. -/
def escAll : List Int → List Int
  | [] => []
  | r :: rs => esc r.toNat ++ escAll rs

theorem escAll_append (xs ys : List Int) : escAll (xs ++ ys) = escAll xs ++ escAll ys := by
  induction xs with
  | nil => rfl
  | cons x xs ih => simp [escAll, ih]

theorem escAll_step (rs : List Int) (k : Nat) (hk : k < rs.length) : escAll (rs.take (k + 1)) = escAll (rs.take k) ++ esc (rs.getD k 0).toNat := by
  rw [List.take_succ_eq_append_getElem hk, escAll_append]
  simp [escAll, List.getD, hk]

/-- The length of the first k escapes. -/
def escLen (rs : List Int) (k : Nat) : Nat := (escAll (rs.take k)).length

theorem escLen_zero (rs : List Int) : escLen rs 0 = 0 := rfl
theorem escLen_step (rs : List Int) (k : Nat) (hk : k < rs.length) : escLen rs (k + 1) = escLen rs k + (esc (rs.getD k 0).toNat).length := by
  unfold escLen
  rw [escAll_step rs k hk, List.length_append]
theorem escLen_bound (rs : List Int) (hr : ∀ j, j < rs.length → 0 ≤ rs.getD j 0 ∧ rs.getD j 0 ≤ 65535) : ∀ k, k ≤ rs.length → escLen rs k ≤ 6 * k := by
  intro k
  induction k with
  | zero => intro _; simp [escLen_zero]
  | succ k ih =>
    intro hk
    have h1 := ih (by omega)
    have h2 := hr k (by omega)
    have h3 := esc_len (rs.getD k 0).toNat (by omega)
    rw [escLen_step rs k (by omega)]
    omega
theorem escLen_mono (rs : List Int) (hr : ∀ j, j < rs.length → 0 ≤ rs.getD j 0 ∧ rs.getD j 0 ≤ 65535) (k : Nat) : ∀ d, k + d ≤ rs.length → escLen rs k + 2 * d ≤ escLen rs (k + d) := by
  intro d
  induction d with
  | zero => intro _; simp
  | succ d ih =>
    intro hk
    have h1 := ih (by omega)
    have h2 := hr (k + d) (by omega)
    have h3 := esc_len (rs.getD (k + d) 0).toNat (by omega)
    rw [← Nat.add_assoc, escLen_step rs (k + d) (by omega)]
    omega
theorem escLen_all (rs : List Int) (n : Nat) (hn : rs.length = n) : escLen rs n = (escAll rs).length := by
  unfold escLen; rw [List.take_of_length_le (by omega)]

/-- The k-th escape lies in the whole at its place. -/
theorem escAll_at (rs : List Int) (k : Nat) (hk : k < rs.length) (i : Nat) (hi : i < (esc (rs.getD k 0).toNat).length) : (escAll rs).getD (escLen rs k + i) 0 = (esc (rs.getD k 0).toNat).getD i 0 := by
  have e : escAll rs = escAll (rs.take k) ++ (esc (rs.getD k 0).toNat ++ escAll (rs.drop (k + 1))) := by
    have h1 : rs = rs.take (k + 1) ++ rs.drop (k + 1) := (List.take_append_drop _ _).symm
    have h2 := congrArg escAll h1
    rw [escAll_append, escAll_step rs k hk, List.append_assoc] at h2
    exact h2
  unfold escLen
  rw [e]
  generalize esc (rs.getD k 0).toNat = q at hi
  simp only [List.getD]
  rw [List.getElem?_append_right (by omega), Nat.add_sub_cancel_left, List.getElem?_append_left hi]

theorem escAll_print (rs : List Int) (hr : ∀ j, j < rs.length → 0 ≤ rs.getD j 0 ∧ rs.getD j 0 ≤ 65535) : ∀ y ∈ escAll rs, 32 ≤ y ∧ y ≤ 126 := by
  induction rs with
  | nil => intro y hy; simp [escAll] at hy
  | cons r rs ih =>
    intro y hy
    simp only [escAll, List.mem_append] at hy
    rcases hy with hy | hy
    · have := hr 0 (by simp)
      simp at this
      exact esc_print r.toNat (by omega) y hy
    · exact ih (fun j hj => by have := hr (j + 1) (by simpa using hj); simpa using this) y hy

end Go.Proofs.Qxb6605303a
