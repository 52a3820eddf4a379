/- Shared plain lemmas of this seat: readable rows, the runs of make and copy in a clone. -/
import Derived.WalkKit
import Derived.WalkSpells
import Derived.Laws.CopyOwn
import Derived.Lib.SliceRun
import Derived.Deep.Draws
namespace Go.Proofs.Qxb6600474a
open Go.RowKit

theorem below_drewN {B : Nat} {a w : World} (h : Below B a w) (n : Nat) : Below B a (w.drewN n) := ⟨h.os, h.tape, h.output, h.size, h.block⟩

theorem ret_int {k : IntKind} {a b : Int} (h : a = b) : Ending.returned (.int k a) = .returned (.int k b) := by rw [h]

/-- A slice of integers that came in, as the shells say it. -/
def InRow (k : IntKind) (w : World) (a : Option Addr) (len cap : Nat) (zs : List Int) : Prop :=
  (a = none ∧ len = 0 ∧ cap = 0 ∧ zs = []) ∨
  ∃ x, a = some x ∧ len ≤ cap ∧ cap ≤ maxLen ∧ zs.length = cap ∧ (∀ i, i < zs.length → w.cell? (x.add i) = some (.int k (zs.getD i 0))) ∧ ∀ n ∈ zs, (Lit.int k n).wf = true

/-- The numbers 'zs' can be read from address 'a' on. -/
def Row (k : IntKind) (w : World) (a : Option Addr) (zs : List Int) : Prop :=
  zs = [] ∨ ∃ b off, a = some ⟨b, off, none⟩ ∧ ∀ i, i < zs.length → w.cell? ⟨b, off + i, none⟩ = some (.int k (zs.getD i 0))

theorem Row.below {k : IntKind} {w w' : World} {a : Option Addr} {zs : List Int} (h : Row k w a zs) (hb : Below w.heap.size w w') : Row k w' a zs := by
  rcases h with h | ⟨b, off, ha, hc⟩
  · exact .inl h
  · exact .inr ⟨b, off, ha, fun i hi => cell_later hb (hc i hi)⟩

theorem InRow.row {k : IntKind} {w : World} {a : Option Addr} {len cap : Nat} {zs : List Int} (h : InRow k w a len cap zs) : Row k w a (zs.take len) ∧ (zs.take len).length = len := by
  rcases h with ⟨rfl, rfl, rfl, rfl⟩ | ⟨x, rfl, hl, hm, hz, hc, _⟩
  · exact ⟨.inl rfl, rfl⟩
  · refine ⟨?_, by simp; omega⟩
    by_cases h0 : len = 0
    · left; simp [h0]
    · right
      obtain ⟨b, off, spot⟩ := x
      have h0c := hc 0 (by omega)
      have hspot : spot = none := by simpa [Addr.add] using World.cell?_spot h0c
      subst hspot
      refine ⟨b, off, rfl, fun i hi => ?_⟩
      have hi' : i < len := by simp at hi; omega
      have := hc i (by omega)
      rw [Addr.add_lit] at this
      rw [this]
      simp [List.getD, hi']

theorem ownsRow_row {k : IntKind} {w : World} {base : Nat} {e : TypeId} {a : Option Addr} {len cap : Nat} {zs : List Int} (h : w.ownsRow base e 1 (.slice a len cap) len (zs.map (Value.int k))) : Row k w a zs ∧ zs.length = len := by
  have hl : zs.length = len := by simpa using h.1
  refine ⟨?_, hl⟩
  rcases h.2 with ⟨h1, h2⟩ | ⟨g, cp, cur, hv, hb, hg, hn, hm, hcs, htake⟩
  · left; exact List.eq_nil_of_length_eq_zero (by omega)
  · right
    simp only [Value.slice.injEq, true_and] at hv
    obtain ⟨rfl, rfl⟩ := hv
    refine ⟨g, 0, rfl, fun i hi => ?_⟩
    have := h.cellAt i (by omega)
    rw [Nat.zero_add, this]
    simp [List.getD, hi]

/-- The two runs of a clone: 'make' and 'copy'. -/
theorem clone_runs {P : Program} (t e : TypeId) (k : IntKind) (bytes : Nat) (ht : P.underlying t = some (.slice e))
    (hinfo : (P.info? e).map (fun i => (i.zero, i.size, i.bytes)) = some (some (.int k 0), 1, bytes)) (w : World) (a : Addr) (n cap : Nat) (zs : List Int)
    (hn : zs.length = n) (hrow : Row k w (some a) zs) (hb : bytes * n ≤ 281474976710656) (h63 : n ≤ maxLen) :
    ∃ W1 W2 : World, (Instr.makeSlice t (.int .i64 (n : Int)) (.int .i64 (n : Int))).run P w = .ok (.slice (some ⟨w.heap.size, 0, none⟩) n n) W1 ∧
      (∀ ty, (Builtin.copy_ #[t, t] ty #[.slice (some ⟨w.heap.size, 0, none⟩) n n, .slice (some a) n cap]).run P W1 = .ok (.int .i64 (n : Int)) W2) ∧
      W2.ownsRow w.heap.size e 1 (.slice (some ⟨w.heap.size, 0, none⟩) n n) n (zs.map (Value.int k)) ∧ Below w.heap.size w W2 := by
  obtain ⟨i, hi, hz0, hz1, hz2⟩ := info_parts hinfo
  have h63' : (n : Int) ≤ 9223372036854775807 := by simp only [maxLen] at h63; omega
  have hb' : (i.bytes : Int) * (n : Int) ≤ 281474976710656 := by
    have h : ((i.bytes * n : Nat) : Int) ≤ 281474976710656 := by rw [hz2]; omega
    rwa [Int.natCast_mul] at h
  have hmk := run_make (P := P) w t e i (.int k 0) ht hi hz0 .i64 .i64 n n (by omega) (by omega) hb' h63'
  simp only [Int.toNat_natCast, hz1, Nat.mul_one] at hmk
  have hsz : (P.info? e).map (·.size) = some 1 := by rw [hi]; simp [hz1]
  have hbel : Below w.heap.size w (w.alloc (.cells (madeCells (Value.int k 0).cells n) e)) := (Below.refl _ _).alloc (Nat.le_refl _) _
  by_cases h0 : n = 0
  · subst h0
    have hzs : zs = [] := List.eq_nil_of_length_eq_zero hn
    subst hzs
    refine ⟨_, _, hmk, fun ty => run_copy_none (P := P) _ t t ty e _ _ 0 0 0 cap ht hsz (by simp), ?_, hbel⟩
    have := World.ownsRow_lit (e := e) (size := 1) (base := w.heap.size) w (madeCells (Value.int k 0).cells 0) 0 (Nat.le_refl _) h63 (by rw [size_madeCells])
    simpa [madeCells] using this
  · rcases hrow with hz | ⟨b, off, ha, hc⟩
    · subst hz; simp at hn; omega
    · simp only [Option.some.injEq] at ha
      subst ha
      have hsrc : ∀ j v, (zs.map (Value.int k))[j]? = some v → (w.alloc (.cells (madeCells (Value.int k 0).cells n) e)).cell? ((⟨b, off, none⟩ : Addr).add j) = some v := by
        intro j v hj
        have hj' : j < zs.length := by
          have := (List.getElem?_eq_some_iff.1 hj).1
          simpa using this
        rw [Addr.add_lit]
        have h1 := cell_later hbel (hc j hj')
        rw [h1, ← hj]
        simp [List.getD, hj']
      have hcp := fun ty => run_copy_row (P := P) (w.alloc (.cells (madeCells (Value.int k 0).cells n) e)) t t ty e w.heap.size 0 n n ⟨b, off, none⟩ n cap
        (madeCells (Value.int k 0).cells n) e (zs.map (Value.int k)) ht hsz (heap_alloc_new w _) (by simp [hn]) hsrc (by rw [size_madeCells]; simp [hn]) (ints_oneCell k zs)
      have e1 : ((madeCells (Value.int k 0).cells n).toList.take 0 ++ zs.map (Value.int k) ++ (madeCells (Value.int k 0).cells n).toList.drop (0 + (zs.map (Value.int k)).length)) = zs.map (Value.int k) := by
        rw [List.take_zero, List.nil_append, List.drop_eq_nil_of_le (by simp [size_madeCells, hn]), List.append_nil]
      rw [e1] at hcp
      have e2 : (goInt (zs.map (Value.int k)).length : Value) = .int .i64 (n : Int) := by simp [goInt, hn]
      rw [e2] at hcp
      refine ⟨_, _, hmk, hcp, ?_, below_setRow hbel (Nat.le_refl _) _⟩
      refine ⟨by simp [hn], .inr ⟨w.heap.size, n, (zs.map (Value.int k)).toArray, rfl, Nat.le_refl _, setRow_heap _ _ _ _ _ _ (heap_alloc_new w _), Nat.le_refl _, h63, by simp [hn], ?_⟩⟩
      simp [List.take_of_length_le, hn]

end Go.Proofs.Qxb6600474a
