/- The index in memory, as an abstract state; what each write makes of it. -/
import Derived.Test.Qxb6600474aKit
namespace Go.Proofs.Qxb6600474a
open Go.RowKit
set_option linter.unusedVariables false

/-- The kind of a slot's field. -/
def kd (f : Nat) : IntKind := if f = 0 then .u64 else .i64
/-- A chunk's cell. -/
def chv (S : Nat) : Option Nat → Value
  | none => .slice none 0 0
  | some B => .slice (some ⟨B, 0, none⟩) S S
/-- One field of one slot set. -/
def updF (cs : Nat → Nat → Int) (i f : Nat) (v : Int) : Nat → Nat → Int := fun i' f' => if i' = i ∧ f' = f then v else cs i' f'
/-- One chunk made. -/
def updC (ch : Nat → Option Nat) (q B : Nat) : Nat → Option Nat := fun q' => if q' = q then some B else ch q'

/-- In the world w block X is an index of 'size' slots: its chunks' array lies in block C, chunk q in block 'ch q' (where it is made), field f of slot i holds 'cs i f'. -/
structure Ix (base : Nat) (w : World) (X C S nc size : Nat) (ch : Nat → Option Nat) (cs : Nat → Nat → Int) (used : Nat) : Prop where
  x0 : w.cell? ⟨X, 0, none⟩ = some (.slice (some ⟨C, 0, none⟩) nc nc)
  x1 : w.cell? ⟨X, 1, none⟩ = some (.int .i64 (size : Int))
  x2 : w.cell? ⟨X, 2, none⟩ = some (.int .i64 (used : Int))
  xf : w.frozen? ⟨X, 2, none⟩ = false
  c : ∀ q, q < nc → w.cell? ⟨C, q, none⟩ = some (chv S (ch q))
  cf : ∀ q, q < nc → w.frozen? ⟨C, q, none⟩ = false
  b : ∀ q, q < nc → ∀ B, ch q = some B → ∀ r, r < S → ∀ f, f < 4 → w.cell? ⟨B, r * 4 + f, none⟩ = some (.int (kd f) (cs (4096 * q + r) f))
  bf : ∀ q, q < nc → ∀ B, ch q = some B → ∀ r, r < S → ∀ f, f < 4 → w.frozen? ⟨B, r * 4 + f, none⟩ = false
  free : ∀ q, q < nc → ch q = none → ∀ r, r < S → ∀ f, cs (4096 * q + r) f = 0
  inj : ∀ q q' B, q < nc → q' < nc → ch q = some B → ch q' = some B → q = q'
  ne : ∀ q B, q < nc → ch q = some B → B ≠ X ∧ B ≠ C
  xc : X ≠ C
  lo : base ≤ X ∧ base ≤ C ∧ ∀ q B, q < nc → ch q = some B → base ≤ B
  s4 : S ≤ 4096 ∧ 0 < S

variable {base : Nat} {w w' : World} {X C S nc size : Nat} {ch : Nat → Option Nat} {cs : Nat → Nat → Int} {used : Nat}

/-- A world in which the index's blocks read as they did. -/
theorem Ix.same (h : Ix base w X C S nc size ch cs used) (hs : ∀ a : Addr, (∃ v, w.cell? a = some v) → w'.cell? a = w.cell? a ∧ w'.frozen? a = w.frozen? a) : Ix base w' X C S nc size ch cs used := by
  refine ⟨?_, ?_, ?_, ?_, fun q hq => ?_, fun q hq => ?_, fun q hq B hB r hr f hf => ?_, fun q hq B hB r hr f hf => ?_, h.free, h.inj, h.ne, h.xc, h.lo, h.s4⟩
  · rw [(hs _ ⟨_, h.x0⟩).1]; exact h.x0
  · rw [(hs _ ⟨_, h.x1⟩).1]; exact h.x1
  · rw [(hs _ ⟨_, h.x2⟩).1]; exact h.x2
  · rw [(hs _ ⟨_, h.x2⟩).2]; exact h.xf
  · rw [(hs _ ⟨_, h.c q hq⟩).1]; exact h.c q hq
  · rw [(hs _ ⟨_, h.c q hq⟩).2]; exact h.cf q hq
  · rw [(hs _ ⟨_, h.b q hq B hB r hr f hf⟩).1]; exact h.b q hq B hB r hr f hf
  · rw [(hs _ ⟨_, h.b q hq B hB r hr f hf⟩).2]; exact h.bf q hq B hB r hr f hf

theorem Ix.below (h : Ix base w X C S nc size ch cs used) (hb : Below w.heap.size w w') : Ix base w' X C S nc size ch cs used :=
  h.same fun a ⟨v, hv⟩ => ⟨hb.cell (World.block_lt_of_cell? _ _ hv), hb.frozen (World.block_lt_of_cell? _ _ hv)⟩

/-- 'used' is set. -/
theorem Ix.setUsed (h : Ix base w X C S nc size ch cs used) (u : Nat) : Ix base (w.setCell ⟨X, 2, none⟩ (.int .i64 (u : Int))) X C S nc size ch cs u := by
  have ho : ∀ b o, (b ≠ X ∨ o ≠ 2) → (w.setCell ⟨X, 2, none⟩ (.int .i64 (u : Int))).cell? ⟨b, o, none⟩ = w.cell? ⟨b, o, none⟩ := fun b o hbo =>
    World.cell?_setCell_other _ _ _ _ (by intro e; simp at e; omega)
  refine ⟨?_, ?_, World.cell?_setCell_same _ _ _ h.x2, ?_, fun q hq => ?_, fun q hq => ?_, fun q hq B hB r hr f hf => ?_, fun q hq B hB r hr f hf => ?_, h.free, h.inj, h.ne, h.xc, h.lo, h.s4⟩
  · rw [ho X 0 (.inr (by omega))]; exact h.x0
  · rw [ho X 1 (.inr (by omega))]; exact h.x1
  · rw [World.frozen?_setCell]; exact h.xf
  · rw [ho C q (.inl (Ne.symm h.xc))]; exact h.c q hq
  · rw [World.frozen?_setCell]; exact h.cf q hq
  · rw [ho B _ (.inl (h.ne q B hq hB).1)]; exact h.b q hq B hB r hr f hf
  · rw [World.frozen?_setCell]; exact h.bf q hq B hB r hr f hf

/-- A field of a slot in a chunk that is made. -/
theorem Ix.setField (h : Ix base w X C S nc size ch cs used) (q B r f : Nat) (hq : q < nc) (hB : ch q = some B) (hr : r < S) (hf : f < 4) (v : Int) :
    Ix base (w.setCell ⟨B, r * 4 + f, none⟩ (.int (kd f) v)) X C S nc size ch (updF cs (4096 * q + r) f v) used := by
  have hne := h.ne q B hq hB
  have ho : ∀ b o, (b ≠ B ∨ o ≠ r * 4 + f) → (w.setCell ⟨B, r * 4 + f, none⟩ (.int (kd f) v)).cell? ⟨b, o, none⟩ = w.cell? ⟨b, o, none⟩ := fun b o hbo =>
    World.cell?_setCell_other _ _ _ _ (by intro e; simp at e; omega)
  have hS := h.s4
  refine ⟨?_, ?_, ?_, ?_, fun q' hq' => ?_, fun q' hq' => ?_, fun q' hq' B' hB' r' hr' f' hf' => ?_, fun q' hq' B' hB' r' hr' f' hf' => ?_, fun q' hq' hn r' hr' f' => ?_, h.inj, h.ne, h.xc, h.lo, h.s4⟩
  · rw [ho X 0 (.inl (Ne.symm hne.1))]; exact h.x0
  · rw [ho X 1 (.inl (Ne.symm hne.1))]; exact h.x1
  · rw [ho X 2 (.inl (Ne.symm hne.1))]; exact h.x2
  · rw [World.frozen?_setCell]; exact h.xf
  · rw [ho C q' (.inl (Ne.symm hne.2))]; exact h.c q' hq'
  · rw [World.frozen?_setCell]; exact h.cf q' hq'
  · by_cases e : B' = B ∧ r' * 4 + f' = r * 4 + f
    · obtain ⟨rfl, e2⟩ := e
      obtain rfl : q' = q := h.inj q' q B' hq' hq hB' hB
      obtain rfl : r' = r := by omega
      obtain rfl : f' = f := by omega
      rw [World.cell?_setCell_same _ _ _ (h.b q' hq' B' hB' r' hr' f' hf')]
      simp [updF]
    · rw [ho B' _ (by omega), h.b q' hq' B' hB' r' hr' f' hf']
      have : ¬ (4096 * q' + r' = 4096 * q + r ∧ f' = f) := by
        rintro ⟨e1, e2⟩
        have e3 : q' = q := by omega
        subst e3
        rw [hB] at hB'
        exact e ⟨(Option.some.inj hB').symm, by omega⟩
      simp [updF, this]
  · rw [World.frozen?_setCell]; exact h.bf q' hq' B' hB' r' hr' f' hf'
  · have hqq : q' ≠ q := by rintro rfl; rw [hB] at hn; cases hn
    have := h.free q' hq' hn r' hr' f'
    simp only [updF]
    rw [if_neg (by omega)]
    exact this

/-- A chunk is made: a new block of noughts, its slice stored into the chunks' array. -/
theorem Ix.setChunk (h : Ix base w X C S nc size ch cs used) (q : Nat) (hq : q < nc) (hn : ch q = none) (W1 : World) (B : Nat) (hb : Below w.heap.size w W1) (hB : w.heap.size ≤ B) (hbase : base ≤ w.heap.size)
    (hz : ∀ r, r < S → ∀ f, f < 4 → W1.cell? ⟨B, r * 4 + f, none⟩ = some (.int (kd f) 0) ∧ W1.frozen? ⟨B, r * 4 + f, none⟩ = false) :
    Ix base (W1.setCell ⟨C, q, none⟩ (.slice (some ⟨B, 0, none⟩) S S)) X C S nc size (updC ch q B) cs used := by
  have h1 := h.below hb
  have hX : X < w.heap.size := World.block_lt_of_cell? _ _ h.x0
  have hC : C < w.heap.size := World.block_lt_of_cell? _ _ (h.c q hq)
  have hS := h.s4
  have hBs : ∀ q' B', q' < nc → ch q' = some B' → B' < w.heap.size := fun q' B' hq' hB' => World.block_lt_of_cell? _ _ (h.b q' hq' B' hB' 0 hS.2 0 (by omega))
  have ho : ∀ b o, (b ≠ C ∨ o ≠ q) → (W1.setCell ⟨C, q, none⟩ (.slice (some ⟨B, 0, none⟩) S S)).cell? ⟨b, o, none⟩ = W1.cell? ⟨b, o, none⟩ := fun b o hbo =>
    World.cell?_setCell_other _ _ _ _ (by intro e; simp at e; omega)
  refine ⟨?_, ?_, ?_, ?_, fun q' hq' => ?_, fun q' hq' => ?_, fun q' hq' B' hB' r' hr' f' hf' => ?_, fun q' hq' B' hB' r' hr' f' hf' => ?_, fun q' hq' hn' r' hr' f' => ?_, fun q1 q2 B' h1' h2' e1 e2 => ?_, fun q' B' hq' hB' => ?_, h.xc, ⟨h.lo.1, h.lo.2.1, fun q' B' hq' hB' => ?_⟩, h.s4⟩
  · rw [ho X 0 (.inl h.xc)]; exact h1.x0
  · rw [ho X 1 (.inl h.xc)]; exact h1.x1
  · rw [ho X 2 (.inl h.xc)]; exact h1.x2
  · rw [World.frozen?_setCell]; exact h1.xf
  · by_cases e : q' = q
    · subst e
      rw [World.cell?_setCell_same _ _ _ (h1.c q' hq')]
      simp [updC, chv]
    · rw [ho C q' (.inr e), h1.c q' hq']
      simp [updC, e]
  · rw [World.frozen?_setCell]; exact h1.cf q' hq'
  · by_cases e : q' = q
    · subst e
      simp only [updC, if_true, Option.some.injEq] at hB'
      subst hB'
      rw [ho B _ (.inl (by omega)), (hz r' hr' f' hf').1, h.free q' hq' hn r' hr' f']
    · simp only [updC, if_neg e] at hB'
      rw [ho B' _ (.inl (h.ne q' B' hq' hB').2)]
      exact h1.b q' hq' B' hB' r' hr' f' hf'
  · rw [World.frozen?_setCell]
    by_cases e : q' = q
    · subst e
      simp only [updC, if_true, Option.some.injEq] at hB'
      subst hB'
      exact (hz r' hr' f' hf').2
    · simp only [updC, if_neg e] at hB'
      exact h1.bf q' hq' B' hB' r' hr' f' hf'
  · by_cases e : q' = q
    · subst e; simp [updC] at hn'
    · simp only [updC, if_neg e] at hn'
      exact h.free q' hq' hn' r' hr' f'
  · by_cases e1' : q1 = q
    · by_cases e2' : q2 = q
      · omega
      · simp only [updC, if_pos e1', if_neg e2', Option.some.injEq] at e1 e2
        have := hBs q2 B' h2' e2
        omega
    · by_cases e2' : q2 = q
      · simp only [updC, if_neg e1', if_pos e2', Option.some.injEq] at e1 e2
        have := hBs q1 B' h1' e1
        omega
      · simp only [updC, if_neg e1', if_neg e2'] at e1 e2
        exact h.inj q1 q2 B' h1' h2' e1 e2
  · by_cases e : q' = q
    · simp only [updC, if_pos e, Option.some.injEq] at hB'
      omega
    · simp only [updC, if_neg e] at hB'
      exact h.ne q' B' hq' hB'
  · by_cases e : q' = q
    · simp only [updC, if_pos e, Option.some.injEq] at hB'
      omega
    · simp only [updC, if_neg e] at hB'
      exact h.lo.2.2 q' B' hq' hB'

end Go.Proofs.Qxb6600474a
