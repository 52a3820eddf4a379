/- The walk of (Reply).AppendTo at a bulk reply. -/
import Derived.Test.Qxb6605347aDoorShelf
import Derived.Test.Qxb6605347aDoorParse
import Derived.Deep.RegionHeld3
namespace Go.Proofs.Qxb6605347aDoor
open Go.RowKit
set_option linter.unusedVariables false

theorem ownsRow_below {w w' : World} {base : Nat} {e : TypeId} {size : Nat} {v : Value} {n : Nat} {xs : List Value} (h : w.ownsRow base e size v n xs) (hb : Below w.heap.size w w') : w'.ownsRow base e size v n xs := by
  refine ⟨h.1, ?_⟩
  rcases h.2 with hn | ⟨g, cap, cur, rfl, hbg, hgg, rest⟩
  · exact .inl hn
  · refine .inr ⟨g, cap, cur, rfl, hbg, ?_, rest⟩
    rw [hb.block g (Array.getElem?_eq_some_iff.1 hgg).1]
    exact hgg

/-- An append onto an owned slice without spare room: a new row; nothing that was there has turned. -/
theorem append_fresh (w W : World) (base : Nat) (a : Option Addr) (n : Nat) (xs : List Value) (hown : w.ownsRow base 5 1 (.slice a n n) n xs) (hb0 : Below w.heap.size w W) (tx : TypeId) (x : Value) (m : Nat) (news : List Value) (hs : Src Tryd.prog 1 tx x m news W) (hm : 0 < m) (hn : n + m ≤ 16777216) :
    ∃ g cap w', (Builtin.append_ #[22, tx] 22 #[.slice a n n, x]).run Tryd.prog W = .ok (.slice (some ⟨g, 0, none⟩) (n + m) cap) w' ∧
      w'.ownsRow w.heap.size 5 1 (.slice (some ⟨g, 0, none⟩) (n + m) cap) (n + m) (xs ++ news) ∧ Below w.heap.size w w' := by
  obtain ⟨i, hi, hz0, hz1, hz2⟩ := info_parts Tryd.info5
  have hownW := ownsRow_below hown hb0
  have hnl : news.length = m := by have := hs.newsLen; omega
  have hxl : xs.length = n := by have := hown.1; omega
  have hlen : (xs ++ news).length = n + m := by rw [List.length_append]; omega
  have hs' : Src Tryd.prog i.size tx x m news W := by rw [hz1]; exact hs
  have h63 : n + m ≤ maxLen := by unfold maxLen; omega
  have hge := grownCap_ge W (n + m) n 5
  have hcm : grownCap W (n + m) n 5 ≤ maxLen := grownCap_le_maxLen W (n + m) n 5 h63
  have hold : (Builtin.firstCells i.size n (.slice a n n)).run Tryd.prog W.drew = .ok xs.toArray W.drew := by
    rcases hownW.2 with ⟨h1, h2⟩ | ⟨g, cap, cur, h1, _⟩
    · simp only [Value.slice.injEq] at h1
      obtain ⟨rfl, rfl, _⟩ := h1
      have hx : xs = [] := List.eq_nil_of_length_eq_zero (by omega)
      subst hx
      exact run_firstCells_none W.drew i.size 0 0 0
    · simp only [Value.slice.injEq, true_and] at h1
      obtain ⟨rfl, rfl⟩ := h1
      exact run_firstCells_some (P := Tryd.prog) W.drew i.size n ⟨g, 0, none⟩ n n xs (by rw [hz1]; omega) (hownW.cells (g := g) rfl)
  have hr := run_append_grow_src (P := Tryd.prog) W 22 tx 22 5 i (.int .u8 0) Tryd.underlying22 hi hz0 a n n xs hold x m news hs' (by omega) (by omega) (growslice_fits (by omega) (by rw [hz2]; omega))
  refine ⟨W.heap.size, _, _, hr, ⟨by omega, .inr ⟨W.heap.size, _, _, rfl, hb0.size, heap_alloc_new W.drew _, hge, hcm, ?_, ?_⟩⟩, ?_⟩
  · simp only [Array.size_append, List.size_toArray, size_zeroCells, hlen]
    show n + m + (grownCap W (n + m) n 5 - (n + m)) * 1 = _
    omega
  · simp only [Array.toList_append]
    rw [Nat.mul_one, ← hlen]
    exact List.take_left
  · exact (hb0.drew).alloc (by simpa using hb0.size) _


/-- The decimal digits of a number, as integers. -/
def decI (u : Nat) : List Int := (Lib.decDigits u).map fun b => (b.toNat : Int)

theorem decI_small (u : Nat) (h : u < 10) : decI u = [48 + (u : Int)] := by
  unfold decI
  rw [Lib.decDigits, dif_pos h]
  simp
  omega
theorem decI_more (u : Nat) (h : ¬ u < 10) : decI u = decI (u / 10) ++ [48 + ((u % 10 : Nat) : Int)] := by
  unfold decI
  rw [Lib.decDigits, dif_neg h]
  simp
  omega

theorem decI_val : ∀ (f u : Nat), u < 10 ^ f → val (decI u) = (u : Int) ∧ Digs (decI u) ∧ 1 ≤ (decI u).length ∧ (decI u).length ≤ f + 1 := by
  intro f
  induction f with
  | zero =>
    intro u hu
    have hu0 : u = 0 := by simpa using hu
    subst hu0
    rw [decI_small 0 (by omega)]
    exact ⟨rfl, fun d hd => by simp at hd; omega, by simp, by simp⟩
  | succ f ih =>
    intro u hu
    by_cases h : u < 10
    · rw [decI_small u h]
      refine ⟨by simp [val]; omega, fun d hd => by simp at hd; omega, by simp, by simp⟩
    · have h2 : u / 10 < 10 ^ f := by rw [Nat.pow_succ] at hu; omega
      obtain ⟨h3, h4, h5, h6⟩ := ih (u / 10) h2
      rw [decI_more u h]
      refine ⟨by rw [val_snoc, h3]; omega, fun d hd => ?_, by simp, by simp; omega⟩
      simp only [List.mem_append, List.mem_singleton] at hd
      rcases hd with hd | hd
      · exact h4 d hd
      · omega

theorem decI_facts (u : Nat) (hu : u ≤ 524288) : val (decI u) = (u : Int) ∧ Digs (decI u) ∧ 1 ≤ (decI u).length ∧ (decI u).length ≤ 7 :=
  decI_val 6 u (by have : (10 : Nat) ^ 6 = 1000000 := rfl; omega)

/-- strconv.AppendInt at base 10, every argument a letter. -/
theorem appInt (B n : Nat) (i : Int) (u : Nat) (hi : i = (u : Int)) (hu : u ≤ 524288) (sv : Value) (zs : List Int) (w : World) (hown : w.ownsRow B 5 1 sv n (zs.map (Value.int .u8))) (hBw : B ≤ w.heap.size) (hn : n ≤ 16777216) (d : Nat) (hd : (decI u).length = d)
    (htab : Lib.TabBelow Tryd.prog B w "internal/strconv.uint64pow10" .u64 Lib.pow10Tab) :
    Calls Tryd.prog 13 #[sv, .int .i64 i, .int .i64 10] w fun e w' => ∃ g cap, e = .returned (.slice (some ⟨g, 0, none⟩) (n + d) cap) ∧ w'.ownsRow B 5 1 (.slice (some ⟨g, 0, none⟩) (n + d) cap) (n + d) ((zs ++ decI u).map (Value.int .u8)) ∧ Below B w w' := by
  subst hi hd
  have hf := decI_facts u hu
  have hit : Lib.itoa (u : Int) = Lib.decDigits u := by unfold Lib.itoa; rw [if_neg (by omega)]; simp
  refine (Tryd.strconv_AppendInt_10 B n (u : Int) (by omega) (by omega) sv _ w hown hBw (by omega) htab).mono ?_
  rintro e w' ⟨v, rfl, h1, h2, _⟩
  rw [hit] at h1
  have hl : (Lib.decDigits u).length = (decI u).length := by simp [decI]
  rw [hl] at h1
  obtain ⟨g, cap, rfl, _, _⟩ := h1.form (by omega)
  refine ⟨g, cap, rfl, ?_, h2⟩
  have hc : Lib.byteCells (Lib.decDigits u) = (decI u).map (Value.int .u8) := by simp [Lib.byteCells, decI]
  rw [List.map_append, ← hc]
  exact h1

/-- What a bulk reply writes behind dst. -/
def bulk (ts : List Int) : List Int := [36] ++ decI ts.length ++ [13, 10] ++ ts ++ [13, 10]

/-- What a call of AppendTo leaves. -/
def BulkPost (w : World) (n : Nat) (T : List Int) (e : Ending) (w' : World) : Prop :=
  ∃ g cap, e = .returned (.slice (some ⟨g, 0, none⟩) n cap) ∧ w'.ownsRow w.heap.size 5 1 (.slice (some ⟨g, 0, none⟩) n cap) n (T.map (Value.int .u8)) ∧ Below w.heap.size w w'

theorem ownsRow_base {w : World} {b b' : Nat} {e : TypeId} {v : Value} {n : Nat} {xs : List Value} (h : w.ownsRow b e 1 v n xs) (hb : b' ≤ b) : w.ownsRow b' e 1 v n xs := by
  refine ⟨h.1, ?_⟩
  rcases h.2 with hn | ⟨g, cap, cur, rfl, hbg, rest⟩
  · exact .inl hn
  · exact .inr ⟨g, cap, cur, rfl, by omega, rest⟩

/-- The text as the source of an append. -/
theorem src_text (w : World) (t : Option Addr) (m cp : Nat) (ts : List Int) (ht : Row .u8 w t ts) (hl : ts.length = m) (hnone : t = none → m = 0) : Src Tryd.prog 1 22 (.slice t m cp) m (ts.map (Value.int .u8)) w := by
  cases t with
  | none =>
    obtain rfl := hnone rfl
    obtain rfl : ts = [] := List.eq_nil_of_length_eq_zero hl
    exact Src.ofNil w Tryd.underlying22 cp
  | some a =>
    refine Src.ofSlice w Tryd.underlying22 a m cp _ (by simp [hl]) (fun j u hu => ?_) (ints_oneCell _ _)
    have hj : j < ts.length := by
      have := (List.getElem?_eq_some_iff.1 hu).1
      simpa using this
    rcases ht with h | ⟨b, off, h1, h2⟩
    · rw [h] at hj; simp at hj
    · simp only [Option.some.injEq] at h1
      subst h1
      rw [Addr.add_lit, h2 j hj, ← hu]
      simp [List.getD, hj]


set_option maxRecDepth 100000 in
set_option maxHeartbeats 1000000 in
theorem appendTo (w : World) (base : Nat) (a t : Option Addr) (n m cp : Nat) (zs ts : List Int) (hown : w.ownsRow base 5 1 (.slice a n n) n (zs.map (Value.int .u8))) (ht : Row .u8 w t ts) (htl : ts.length = m) (hnone : t = none → m = 0) (hn : n ≤ 524288) (hm : m ≤ 524288)
    (htab : Lib.TabIs Tryd.prog w "internal/strconv.uint64pow10" .u64 Lib.pow10Tab) (N : Nat) (hN : n + (bulk ts).length = N) :
    Calls Tryd.prog 7 #[.agg #[.int .u8 4, .slice t m cp, .int .i64 0], .slice a n n] w (BulkPost w N (zs ++ bulk ts)) := by
  have hb0 : Below w.heap.size w (w.alloc (.cells #[.int .u8 4, .slice t m cp, .int .i64 0] 27)) := (Below.refl _ _).alloc (Nat.le_refl _) _
  obtain ⟨W0, hW0⟩ : ∃ W0, w.alloc (.cells #[.int .u8 4, .slice t m cp, .int .i64 0] 27) = W0 := ⟨_, rfl⟩
  rw [hW0] at hb0
  have hs0 : W0.heap.size = w.heap.size + 1 := by rw [← hW0]; simp
  have hc1 : W0.cell? ⟨w.heap.size, 1, none⟩ = some (.slice t m cp) := by rw [← hW0, World.cell?_alloc_at _ _ _ _ rfl]; rfl
  have hc0 : W0.cell? ⟨w.heap.size, 0, none⟩ = some (.int .u8 4) := by rw [← hW0, World.cell?_alloc_at _ _ _ _ rfl]; rfl
  have hown0 := ownsRow_below hown hb0
  have htab0 : Lib.TabBelow Tryd.prog w.heap.size w "internal/strconv.uint64pow10" .u64 Lib.pow10Tab := Lib.tabBelow_of_tabIs htab
  have hdf := decI_facts m hm
  obtain ⟨d, hd⟩ : ∃ d, (decI m).length = d := ⟨_, rfl⟩
  rw [hd] at hdf
  -- the first append: '$'
  have hbL : Below W0.heap.size W0 ((W0.alloc (.cells #[.int .u8 36] 5)).drew) := ((Below.refl _ _).alloc (Nat.le_refl _) _).drew
  obtain ⟨g1, cap1, W1, hrun1, ho1, hb1⟩ := append_fresh W0 ((W0.alloc (.cells #[.int .u8 36] 5)).drew) base a n _ hown0 hbL 22 (.slice (some ⟨W0.heap.size, 0, none⟩) 1 1) 1 (([36] : List Int).map (Value.int .u8))
    (Src.ofSlice _ Tryd.underlying22 ⟨W0.heap.size, 0, none⟩ 1 1 _ (by simp) (World.news_of_block (cs := #[.int .u8 36]) (t := 5) (fr := (0, 0)) (heap_alloc_new W0 _)) (ints_oneCell _ _)) (by omega) (by omega)
  rw [← List.map_append] at ho1
  have HA1 : Hid ((Builtin.append_ #[22, 22] 22 #[.slice a n n, .slice (some ⟨W0.heap.size, 0, none⟩) 1 1]).run Tryd.prog ((W0.alloc (.cells #[.int .u8 36] 5)).drew) = .ok (.slice (some ⟨g1, 0, none⟩) (n + 1) cap1) W1) := hrun1
  have hcW1 : W1.cell? ⟨w.heap.size, 1, none⟩ = some (.slice t m cp) := (hb1.cell (by show w.heap.size < _; omega)).trans hc1
  -- AppendInt
  have HC : Hid (Calls Tryd.prog 13 #[.slice (some ⟨g1, 0, none⟩) (n + 1) cap1, .int .i64 (m : Int), .int .i64 10] W1 fun e w' => ∃ g cap, e = .returned (.slice (some ⟨g, 0, none⟩) (n + 1 + d) cap) ∧ w'.ownsRow W0.heap.size 5 1 (.slice (some ⟨g, 0, none⟩) (n + 1 + d) cap) (n + 1 + d) ((zs ++ [36] ++ decI m).map (Value.int .u8)) ∧ Below W0.heap.size W1 w') :=
    appInt W0.heap.size (n + 1) m m rfl hm _ _ W1 ho1 hb1.size (by omega) d hd (fun w' hw' => htab0 w' ((hb0.trans (hb1.mono (by omega))).trans (hw'.mono (by omega))))
  have HT : Hid (Row .u8 w t ts) := ht
  have HB : Hid (Below w.heap.size w W0 ∧ Below W0.heap.size W0 W1) := ⟨hb0, hb1⟩
  have HTL : Hid (ts.length = m) := htl
  have HNO : Hid (t = none → m = 0) := hnone
  have HNN : Hid (n + (bulk ts).length = N) := hN
  have HD : Hid ((decI m).length = d) := hd
  clear hown ht htl hnone htab hN hown0 htab0 hbL hrun1 ho1 hb0 hb1 hd
  have hlt0 : w.heap.size < W0.heap.size := by omega
  have HS0 : Hid (W0.heap.size = w.heap.size + 1) := hs0
  clear hs0
  go_enter Tryd.func7, Tryd.ntmps7
  go_wp2_with fail
  clear hW0 hc0
  go_region_held3 (fun w' => w'.cell? ⟨w.heap.size, 1, none⟩ = some (.slice t m cp)) (first | go_keep | exact hcW1 | exact hcW2)
    (first | (refine step_append_run (by rfl) (.tmp 35) (.tmp 36) 22 22 (by rfl) 22 (by rfl) _ _ _ (by rfl) (by rfl) HA1.out ?_) | (go_at_call 13; refine HC.out.mono ?_; rintro e W2 ⟨g2, cap2, rfl, ho2, hb2⟩; have hcW2 : W2.cell? ⟨w.heap.size, 1, none⟩ = some (.slice t m cp) := (hb2.cell (by exact hlt0)).trans hcW1))
  have hbw : Below w.heap.size w W2 := (HB.out.1.trans (HB.out.2.mono (by omega))).trans (hb2.mono (by omega))
  have hsz2 : W0.heap.size ≤ W2.heap.size := Nat.le_trans HB.out.2.size hb2.size
  obtain ⟨g3, cap3, W3, hrun3, ho3, _, _, hb3⟩ := append_byte W2.drew W0.heap.size 9 22 _ (n + 1 + d) _ ho2.drew (.string ⟨#[13, 10]⟩) 2 (([13, 10] : List Int).map (Value.int .u8)) (Src.ofString W2.drew Tryd.underlying9 ⟨#[13, 10]⟩) (.inl (by omega)) (by omega) hsz2
  rw [← List.map_append] at ho3
  have hb3' : Below W0.heap.size W2 W3 := (Below.refl _ _).drew.trans hb3
  have hrow3 : Row .u8 W3 t ts := HT.out.below (hbw.trans (hb3'.mono (by omega)))
  obtain ⟨g4, cap4, W4, hrun4, ho4, _, _, hb4⟩ := append_byte W3 W0.heap.size 22 22 _ (n + 1 + d + 2) _ ho3 (.slice t m cp) m (ts.map (Value.int .u8)) (src_text W3 t m cp ts hrow3 HTL.out HNO.out) (.inr (by omega)) (by omega) (Nat.le_trans hsz2 hb3'.size)
  rw [← List.map_append] at ho4
  obtain ⟨g5, cap5, W5, hrun5, ho5, _, _, hb5⟩ := append_byte W4 W0.heap.size 9 22 _ (n + 1 + d + 2 + m) _ ho4 (.string ⟨#[13, 10]⟩) 2 (([13, 10] : List Int).map (Value.int .u8)) (Src.ofString W4 Tryd.underlying9 ⟨#[13, 10]⟩) (.inl (by omega)) (by omega) (Nat.le_trans (Nat.le_trans hsz2 hb3'.size) hb4.size)
  rw [← List.map_append] at ho5
  have HA3 : Hid ((Builtin.append_ #[22, 9] 22 #[.slice (some ⟨g2, 0, none⟩) (n + 1 + d) cap2, .string ⟨#[13, 10]⟩]).run Tryd.prog W2.drew = .ok (.slice (some ⟨g3, 0, none⟩) (n + 1 + d + 2) cap3) W3) := hrun3
  have HA4 : Hid ((Builtin.append_ #[22, 22] 22 #[.slice (some ⟨g3, 0, none⟩) (n + 1 + d + 2) cap3, .slice t m cp]).run Tryd.prog W3 = .ok (.slice (some ⟨g4, 0, none⟩) (n + 1 + d + 2 + m) cap4) W4) := hrun4
  have HA5 : Hid ((Builtin.append_ #[22, 9] 22 #[.slice (some ⟨g4, 0, none⟩) (n + 1 + d + 2 + m) cap4, .string ⟨#[13, 10]⟩]).run Tryd.prog W4 = .ok (.slice (some ⟨g5, 0, none⟩) (n + 1 + d + 2 + m + 2) cap5) W5) := hrun5
  have hcW3 : W3.cell? ⟨w.heap.size, 1, none⟩ = some (.slice t m cp) := (hb3'.cell (by exact hlt0)).trans hcW2
  have hcW4 : W4.cell? ⟨w.heap.size, 1, none⟩ = some (.slice t m cp) := (hb4.cell (by exact hlt0)).trans hcW3
  have hlist : zs ++ [36] ++ decI m ++ [13, 10] ++ ts ++ [13, 10] = zs ++ bulk ts := by unfold bulk; rw [HTL.out]; simp only [List.append_assoc]
  have hlen : n + 1 + d + 2 + m + 2 = N := by
    rw [← HNN.out]; unfold bulk; simp only [List.length_append, List.length_cons, List.length_nil, HTL.out, HD.out]; omega
  rw [hlist] at ho5
  have HF : Hid (W5.ownsRow w.heap.size 5 1 (.slice (some ⟨g5, 0, none⟩) (n + 1 + d + 2 + m + 2) cap5) (n + 1 + d + 2 + m + 2) ((zs ++ bulk ts).map (Value.int .u8)) ∧ Below w.heap.size w W5) :=
    ⟨ownsRow_base ho5 (by omega), ((hbw.trans (hb3'.mono (by omega))).trans (hb4.mono (by omega))).trans (hb5.mono (by omega))⟩
  have HLEN : Hid (n + 1 + d + 2 + m + 2 = N) := hlen
  clear hrun3 ho3 hb3 hb3' hrow3 hrun4 ho4 hb4 hrun5 ho5 hb5 hlist hlen hbw hsz2 ho2 hb2 HC HA1 HB HT
  go_wp2_with fail
  go_region_held3 (fun w' => w'.cell? ⟨w.heap.size, 1, none⟩ = some (.slice t m cp)) (first | go_keep | exact hcW3 | exact hcW4)
    (first | (refine step_append_run (by rfl) (.tmp 42) _ 22 9 (by rfl) 22 (by rfl) _ _ _ (by rfl) (by rfl) HA3.out ?_) | (refine step_append_run (by rfl) (.tmp 43) (.tmp 45) 22 22 (by rfl) 22 (by rfl) _ _ _ (by rfl) (by rfl) HA4.out ?_))
  go_wp2_with (at_builtin; refine wpList_append_run rfl (.tmp 47) _ 22 9 rfl 22 rfl _ _ _ rfl rfl HA5.out ?_)
  go_ret
  have hl := HLEN.out
  subst hl
  exact ⟨g5, cap5, rfl, HF.out⟩

end Go.Proofs.Qxb6605347aDoor
