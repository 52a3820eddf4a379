/- 'append' onto a slice that the call owns, whatever the source (a slice, a string): one law. -/
import Derived.Test.Qxb6605347aDoorKit
import Derived.Deep.AppendSrc
import Derived.Deep.AppendLies
namespace Go.Proofs.Qxb6605347aDoor
open Go.RowKit

theorem run_append_src {P : Program} (w : World) (base : Nat) (t tx ty e : TypeId) (i : TypeInfo) (z : Value) (bytes : Nat) (ht : P.underlying t = some (.slice e)) (hi : P.info? e = some i) (hz : i.zero = some z)
    (hsize : i.size = 1) (hby : i.bytes = bytes) (hzs : z.cells.size = 1)
    (v : Value) (n : Nat) (xs : List Value) (hown : w.ownsRow base e 1 v n xs)
    (x : Value) (m : Nat) (news : List Value) (hs : Src P 1 tx x m news w) (hm : 0 < m ∨ 0 < n)
    (h63 : n + m ≤ maxLen) (hbytes : (n + m) * bytes ≤ 140737488355328) (hbase : base ≤ w.heap.size) :
    ∃ g cap w', (Builtin.append_ #[t, tx] ty #[v, x]).run P w = .ok (.slice (some ⟨g, 0, none⟩) (n + m) cap) w' ∧
      w'.ownsRow base e 1 (.slice (some ⟨g, 0, none⟩) (n + m) cap) (n + m) (xs ++ news) ∧ w.grownBy w' v.ownBlock ∧ (v.ownBlock = some g ∨ g = w.heap.size) ∧ Below base w w' := by
  have hrow : ∀ k, v.ownBlock = some k → base ≤ k := fun k hk => (hown.lt k hk).1
  subst hby
  have hnl : news.length = m := by have := hs.newsLen; omega
  have hxl : xs.length = n := by have := hown.1; omega
  have hlen : (xs ++ news).length = n + m := by rw [List.length_append]; omega
  have hsmall : n + m ≤ 9223372036854775807 := by simp only [maxLen] at h63; omega
  have hs' : Src P i.size tx x m news w := by rw [hsize]; exact hs
  have grown : ∀ (old : Nat), old < n + m → ∀ (row : Option Nat),
      (w.drew.alloc (.cells ((xs ++ news).toArray ++ Builtin.zeroCells z.cells (grownCap w (n + m) old e - (n + m))) e)).ownsRow base e 1
        (.slice (some ⟨w.heap.size, 0, none⟩) (n + m) (grownCap w (n + m) old e)) (n + m) (xs ++ news) ∧
      w.grownBy (w.drew.alloc (.cells ((xs ++ news).toArray ++ Builtin.zeroCells z.cells (grownCap w (n + m) old e - (n + m))) e)) row := by
    intro old ho row
    have hge := grownCap_ge w (n + m) old e
    have hcm : grownCap w (n + m) old e ≤ maxLen := grownCap_le_maxLen w (n + m) old e h63
    refine ⟨⟨by omega, .inr ⟨w.heap.size, _, _, rfl, hbase, heap_alloc_new w.drew _, hge, hcm, ?_, ?_⟩⟩, ⟨rfl, rfl, rfl, by simp, fun k hk _ => Go.heap_alloc_old w.drew _ hk⟩⟩
    · simp only [Array.size_append, List.size_toArray, size_zeroCells, hzs, hlen]
      omega
    · simp only [Array.toList_append]
      rw [Nat.mul_one, ← hlen]
      exact List.take_left
  have fin : ∀ {g cap : Nat} {w' : World}, (Builtin.append_ #[t, tx] ty #[v, x]).run P w = .ok (.slice (some ⟨g, 0, none⟩) (n + m) cap) w' →
      w'.ownsRow base e 1 (.slice (some ⟨g, 0, none⟩) (n + m) cap) (n + m) (xs ++ news) → w.grownBy w' v.ownBlock → (v.ownBlock = some g ∨ g = w.heap.size) →
      ∃ g cap w', (Builtin.append_ #[t, tx] ty #[v, x]).run P w = .ok (.slice (some ⟨g, 0, none⟩) (n + m) cap) w' ∧
      w'.ownsRow base e 1 (.slice (some ⟨g, 0, none⟩) (n + m) cap) (n + m) (xs ++ news) ∧ w.grownBy w' v.ownBlock ∧ (v.ownBlock = some g ∨ g = w.heap.size) ∧ Below base w w' :=
    fun h1 h2 h3 h4 => ⟨_, _, _, h1, h2, h3, h4, (Below.refl _ _).grown h3 hbase hrow⟩
  rcases hown.2 with ⟨hv, hn0⟩ | ⟨g, cap, cur, hv, hbg, hg, hnc, hcm, hcs, htake⟩
  · have hx : xs = [] := List.eq_nil_of_length_eq_zero (by omega)
    subst hx hn0
    have hr := run_append_grow_src (P := P) w t tx ty e i z ht hi hz none 0 0 [] (run_firstCells_none w.drew i.size 0 0 0) x m news hs' (by omega) (by omega)
      (growslice_fits (by omega) hbytes)
    have hgr := grown 0 (by omega) v.ownBlock
    simp only [List.nil_append, Nat.zero_add] at hr hgr fin ⊢
    rw [hv] at hgr fin ⊢
    exact fin hr hgr.1 hgr.2 (.inr rfl)
  · have hown' := hown
    rw [hv] at hown'
    by_cases hroom : n + m ≤ cap
    · have hfit : n + news.length ≤ cur.size := by omega
      have hst := run_storeCells_at P g n e news 0 cur w hg (by simpa using hfit) hs.one
      simp only [Nat.add_zero] at hst
      have hr : (Builtin.append_ #[t, tx] ty #[.slice (some ⟨g, 0, none⟩) n cap, x]).run P w =
          .ok (.slice (some ⟨g, 0, none⟩) (n + m) cap) (w.setRow g (cur.toList.take n ++ news ++ cur.toList.drop (n + news.length)).toArray) := by
        rcases hs.kind with ⟨e', hk⟩ | hk <;> simp [Builtin.append_, run_underlying ht, run_underlying hk, sizeOf, typeInfo, hi, hsize, hs.len, hroom, hs.cells, Addr.add_lit, hst]
      rw [hv] at fin ⊢
      refine fin hr ⟨by omega, .inr ⟨g, cap, _, rfl, hbg, setRow_heap w g cur _ e _ hg, hroom, hcm, ?_, ?_⟩⟩ ⟨rfl, rfl, rfl, by simp, fun k _ hk => setRow_other w g k _ (fun e => hk (by simp [Value.ownBlock, e]))⟩ (.inl rfl)
      · simp only [List.size_toArray, List.length_append, List.length_take, List.length_drop, Array.length_toList]
        omega
      · rw [Nat.mul_one] at htake
        rw [htake, Nat.mul_one, ← hlen]
        exact List.take_left
    · have holds : ∀ j u, xs[j]? = some u → w.drew.cell? ((⟨g, 0, none⟩ : Addr).add j) = some u := hown'.cells (g := g) rfl
      have hold := run_firstCells_some (P := P) w.drew i.size n ⟨g, 0, none⟩ n cap xs (by rw [hsize]; omega) holds
      have hr := run_append_grow_src (P := P) w t tx ty e i z ht hi hz (some ⟨g, 0, none⟩) n cap xs hold x m news hs' (by omega) (by omega) (growslice_fits (by omega) hbytes)
      have hgr := grown cap (by omega) v.ownBlock
      rw [hv] at hgr fin ⊢
      exact fin hr hgr.1 hgr.2 (.inr rfl)

/-- The append whose run is known, at the operation, at a plain region's list, at a step of a region that draws. -/
theorem wp_append_run {P : Program} {w w' : World} {o : Oper} {a : Act} {K : Act → World → Prop} {Q : Exit → Act → World → Prop} (s x : Operand) (t tx : TypeId)
    (ho : o.op = .call { callee := .builtin .append, args := #[s, x], argTypes := #[t, tx] }) (ty : TypeId) (hty : o.type = ty) (v xv r : Value) (hs : a.eval s = v) (hx : a.eval x = xv)
    (hrun : (Builtin.append_ #[t, tx] ty #[v, xv]).run P w = .ok r w') (h : K (a.put o.dst r) w') : o.wp P a w K Q := by
  subst hty
  unfold Oper.wp execOp
  simp only [ho, resolve, invoke, builtin, Sem.run_bind, Sem.run_pure, Result.andThen_ok, List.map_toArray, List.map_cons, List.map_nil, hs, hx, hrun]
  exact h

theorem wpList_append_run {P : Program} {w w' : World} {ops : Array Oper} {rest : List Oper} {o : Oper} {a : Act} {Q : Exit → Act → World → Prop} (hgd : o.guard = none) (s x : Operand) (t tx : TypeId)
    (ho : o.op = .call { callee := .builtin .append, args := #[s, x], argTypes := #[t, tx] }) (ty : TypeId) (hty : o.type = ty) (v xv r : Value) (hs : a.eval s = v) (hx : a.eval x = xv)
    (hrun : (Builtin.append_ #[t, tx] ty #[v, xv]).run P w = .ok r w') (h : wpList P ops Q rest (a.put o.dst r) w') : wpList P ops Q (o :: rest) a w :=
  wpList_plain hgd fun _ hK => wp_append_run s x t tx ho ty hty v xv r hs hx hrun (hK _ _ h)

theorem step_append_run {P : Program} {w w' : World} {ops : Array Oper} {o : Oper} {a : Act} {K : Act → World → Prop} {Q : Exit → Act → World → Prop} {E : Prop} (hgd : o.guard = none) (s x : Operand) (t tx : TypeId)
    (ho : o.op = .call { callee := .builtin .append, args := #[s, x], argTypes := #[t, tx] }) (ty : TypeId) (hty : o.type = ty) (v xv r : Value) (hs : a.eval s = v) (hx : a.eval x = xv)
    (hrun : (Builtin.append_ #[t, tx] ty #[v, xv]).run P w = .ok r w') (h : K (a.put o.dst r) w') :
    if Region.wanted o (yielded ops a.tmps) = true then Oper.wp P o a w K Q else E := by
  have hw : Region.wanted o (yielded ops a.tmps) = true := by simp [Region.wanted, hgd]
  rw [if_pos hw]
  exact wp_append_run s x t tx ho ty hty v xv r hs hx hrun h

end Go.Proofs.Qxb6605347aDoor
