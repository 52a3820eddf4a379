/- The plain law of decimal digits: no Go in sight. -/
namespace Go.Proofs.Qxb6605347aDoor

/-- The value of a list of ASCII digits, the greatest first. -/
def val (ds : List Int) : Int := ds.foldl (fun n d => n * 10 + (d - 48)) 0

theorem val_snoc (ds : List Int) (d : Int) : val (ds ++ [d]) = val ds * 10 + (d - 48) := by simp [val]
theorem val_nil : val [] = 0 := rfl
theorem val_zero (ds : List Int) : val (48 :: ds) = val ds := by simp [val]

theorem val_take (ds : List Int) (k : Nat) (hk : k < ds.length) : val (ds.take (k + 1)) = val (ds.take k) * 10 + (ds.getD k 0 - 48) := by
  rw [List.take_succ_eq_append_getElem hk, val_snoc]
  simp [List.getD, hk]

/-- All are digits. -/
def Digs (ds : List Int) : Prop := ∀ d ∈ ds, 48 ≤ d ∧ d ≤ 57

theorem snoc_cases (l : List Int) : l = [] ∨ ∃ a b, l = a ++ [b] := by
  rcases List.eq_nil_or_concat l with h | ⟨a, b, h⟩
  · exact .inl h
  · exact .inr ⟨a, b, by simpa using h⟩

theorem val_bd : ∀ (n : Nat) (ds : List Int), ds.length = n → Digs ds → 0 ≤ val ds ∧ val ds < 10 ^ n := by
  intro n
  induction n with
  | zero =>
    intro ds h _
    have : ds = [] := List.eq_nil_of_length_eq_zero h
    subst this
    simp [val]
  | succ n ih =>
    intro ds h hd
    rcases snoc_cases ds with rfl | ⟨a, b, rfl⟩
    · simp at h
    · have h1 := ih a (by simpa using h) (fun d hd' => hd d (by simp [hd']))
      have h2 := hd b (by simp)
      rw [val_snoc, Int.pow_succ]
      omega

theorem val_le (ds : List Int) (h : ds.length ≤ 10) (hd : Digs ds) : 0 ≤ val ds ∧ val ds ≤ 9999999999 := by
  have h1 := val_bd ds.length ds rfl hd
  have h2 : (10 : Int) ^ ds.length ≤ 10 ^ 10 := by
    have := Nat.pow_le_pow_right (show 0 < 10 by omega) h
    exact_mod_cast this
  have h3 : (10 : Int) ^ 10 = 10000000000 := rfl
  omega

/-- The digits of a number, the least first. -/
def revD : Nat → Nat → List Int
  | 0, _ => []
  | f + 1, m => (48 + ((m % 10 : Nat) : Int)) :: (if m / 10 = 0 then [] else revD f (m / 10))

theorem revD_last (f m : Nat) (h : m / 10 = 0) : revD (f + 1) m = [48 + ((m % 10 : Nat) : Int)] := by rw [revD, if_pos h]
theorem revD_more (f m : Nat) (h : m / 10 ≠ 0) : revD (f + 1) m = (48 + ((m % 10 : Nat) : Int)) :: revD f (m / 10) := by rw [revD, if_neg h]

/-- The value of digits, the least first. -/
def valR : List Int → Nat
  | [] => 0
  | d :: r => (d - 48).toNat + 10 * valR r

theorem valR_val : ∀ (n : Nat) (ds : List Int), ds.length = n → Digs ds → (valR ds.reverse : Int) = val ds := by
  intro n
  induction n with
  | zero =>
    intro ds h _
    have : ds = [] := List.eq_nil_of_length_eq_zero h
    subst this
    rfl
  | succ n ih =>
    intro ds h hd
    rcases snoc_cases ds with rfl | ⟨a, b, rfl⟩
    · simp at h
    · have h1 := ih a (by simpa using h) (fun d hd' => hd d (by simp [hd']))
      have h2 := hd b (by simp)
      rw [val_snoc, ← h1]
      simp only [List.reverse_append, List.reverse_cons, List.reverse_nil, List.nil_append, List.singleton_append, valR]
      omega

theorem valR_pos : ∀ (r : List Int), Digs r → r ≠ [] → r.getLast? ≠ some 48 → 0 < valR r := by
  intro r
  induction r with
  | nil => intro _ h; exact absurd rfl h
  | cons d t ih =>
    intro hd _ hl
    have h2 := hd d (by simp)
    cases t with
    | nil =>
      simp at hl
      simp [valR]
      omega
    | cons e t =>
      have := ih (fun x hx => hd x (by simp at hx ⊢; exact .inr hx)) (by simp) (by simpa using hl)
      rw [valR]
      omega

theorem revD_valR : ∀ (r : List Int) (f : Nat), r.length ≤ f → Digs r → r ≠ [] → (r.length = 1 ∨ r.getLast? ≠ some 48) → revD f (valR r) = r := by
  intro r
  induction r with
  | nil => intro _ _ _ h; exact absurd rfl h
  | cons d t ih =>
    intro f hf hd _ hl
    have h2 := hd d (by simp)
    cases f with
    | zero => simp at hf
    | succ f =>
      cases t with
      | nil =>
        rw [revD_last f _ (by simp [valR]; omega)]
        simp [valR]
        omega
      | cons e t =>
        have hl' : (e :: t).getLast? ≠ some 48 := by
          rcases hl with hl | hl
          · simp at hl
          · simpa using hl
        have hd' : Digs (e :: t) := fun x hx => hd x (by simp at hx ⊢; exact .inr hx)
        have hp := valR_pos (e :: t) hd' (by simp) hl'
        have hq := ih f (by simpa using hf) hd' (by simp) (.inr hl')
        have e1 : valR (d :: e :: t) / 10 = valR (e :: t) := by rw [valR]; omega
        have e2 : valR (d :: e :: t) % 10 = (d - 48).toNat := by rw [valR]; omega
        rw [revD_more f _ (by rw [e1]; omega), e1, e2, hq]
        congr 1
        omega

/-- A list of digits with no leading nought (but for '0' itself) is the decimal text of its value. -/
theorem dec_core (core : List Int) (hd : Digs core) (hne : core ≠ []) (hlead : core.length = 1 ∨ core.getD 0 0 ≠ 48) (hlen : core.length ≤ 20) : (revD 20 (val core).toNat).reverse = core := by
  have h1 := valR_val core.length core rfl hd
  have h2 : (val core).toNat = valR core.reverse := by omega
  rw [h2, revD_valR core.reverse 20 (by simpa using hlen) (fun d h => hd d (by simpa using h)) (by simpa using hne) ?_, List.reverse_reverse]
  rcases hlead with h | h
  · left; simpa using h
  · right
    rw [List.getLast?_reverse]
    cases core with
    | nil => exact absurd rfl hne
    | cons c t => simpa [List.getD] using h

/-- Leading noughts count nothing. -/
theorem val_drop (ds : List Int) : ∀ k, k ≤ ds.length → (∀ i, i < k → ds.getD i 0 = 48) → val (ds.drop k) = val ds := by
  intro k
  induction k with
  | zero => intro _ _; simp
  | succ k ih =>
    intro hk h0
    have h1 := ih (by omega) (fun i hi => h0 i (by omega))
    rw [← h1]
    have e : ds.drop k = 48 :: ds.drop (k + 1) := by
      rw [List.drop_eq_getElem_cons (by omega)]
      have := h0 k (by omega)
      simp [List.getD, show k < ds.length by omega] at this
      rw [this]
    rw [e, val_zero]

theorem val_eq_zero (core : List Int) (hd : Digs core) (hne : core ≠ []) (hlead : core.length = 1 ∨ core.getD 0 0 ≠ 48) (hlen : core.length ≤ 20) (h0 : val core = 0) : core = [48] := by
  have h := dec_core core hd hne hlead hlen
  rw [h0] at h
  rw [← h]
  rfl

theorem Digs.drop {ds : List Int} (h : Digs ds) (k : Nat) : Digs (ds.drop k) := fun d hd => h d (List.mem_of_mem_drop hd)
theorem Digs.take {ds : List Int} (h : Digs ds) (k : Nat) : Digs (ds.take k) := fun d hd => h d (List.mem_of_mem_take hd)
theorem Digs.of_getD {ds : List Int} (h : ∀ i, i < ds.length → 48 ≤ ds.getD i 0 ∧ ds.getD i 0 ≤ 57) : Digs ds := fun d hd => by
  obtain ⟨i, hi, rfl⟩ := List.getElem_of_mem hd
  have := h i hi
  simpa [List.getD, hi] using this
theorem Digs.getD {ds : List Int} (h : Digs ds) (i : Nat) (hi : i < ds.length) : 48 ≤ ds.getD i 0 ∧ ds.getD i 0 ≤ 57 := by
  have := h (ds[i]) (List.getElem_mem hi)
  simpa [List.getD, hi] using this

end Go.Proofs.Qxb6605347aDoor
