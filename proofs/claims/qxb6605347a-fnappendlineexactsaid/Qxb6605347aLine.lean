/- The walk of ZZappendLine (appendLine) onto a slice without spare room. -/
import Derived.Test.Qxb6605347aBase
namespace Go.Proofs.Qxb6605347a
open Go.RowKit
set_option linter.unusedVariables false

theorem ownsRow_below {w w' : World} {base : Nat} {e : TypeId} {size : Nat} {v : Value} {n : Nat} {xs : List Value} (h : w.ownsRow base e size v n xs) (hb : Below w.heap.size w w') : w'.ownsRow base e size v n xs := by
  refine ⟨h.1, ?_⟩
  rcases h.2 with hn | ⟨g, cap, cur, rfl, hbg, hgg, rest⟩
  · exact .inl hn
  · refine .inr ⟨g, cap, cur, rfl, hbg, ?_, rest⟩
    rw [hb.block g (Array.getElem?_eq_some_iff.1 hgg).1]
    exact hgg

/-- An append onto an owned slice without spare room: a new row; nothing that was there has turned. -/
theorem append_fresh (w W : World) (base : Nat) (a : Option Addr) (n : Nat) (xs : List Value) (hown : w.ownsRow base 5 1 (.slice a n n) n xs) (hb0 : Below w.heap.size w W) (tx : TypeId) (x : Value) (m : Nat) (news : List Value) (hs : Src Try.prog 1 tx x m news W) (hm : 0 < m) (hn : n + m ≤ 16777216) :
    ∃ g cap w', (Builtin.append_ #[22, tx] 22 #[.slice a n n, x]).run Try.prog W = .ok (.slice (some ⟨g, 0, none⟩) (n + m) cap) w' ∧
      w'.ownsRow w.heap.size 5 1 (.slice (some ⟨g, 0, none⟩) (n + m) cap) (n + m) (xs ++ news) ∧ Below w.heap.size w w' := by
  obtain ⟨i, hi, hz0, hz1, hz2⟩ := info_parts Try.info5
  have hownW := ownsRow_below hown hb0
  have hnl : news.length = m := by have := hs.newsLen; omega
  have hxl : xs.length = n := by have := hown.1; omega
  have hlen : (xs ++ news).length = n + m := by rw [List.length_append]; omega
  have hs' : Src Try.prog i.size tx x m news W := by rw [hz1]; exact hs
  have h63 : n + m ≤ maxLen := by unfold maxLen; omega
  have hge := grownCap_ge W (n + m) n 5
  have hcm : grownCap W (n + m) n 5 ≤ maxLen := grownCap_le_maxLen W (n + m) n 5 h63
  have hold : (Builtin.firstCells i.size n (.slice a n n)).run Try.prog W.drew = .ok xs.toArray W.drew := by
    rcases hownW.2 with ⟨h1, h2⟩ | ⟨g, cap, cur, h1, _⟩
    · simp only [Value.slice.injEq] at h1
      obtain ⟨rfl, rfl, _⟩ := h1
      have hx : xs = [] := List.eq_nil_of_length_eq_zero (by omega)
      subst hx
      exact run_firstCells_none W.drew i.size 0 0 0
    · simp only [Value.slice.injEq, true_and] at h1
      obtain ⟨rfl, rfl⟩ := h1
      exact run_firstCells_some (P := Try.prog) W.drew i.size n ⟨g, 0, none⟩ n n xs (by rw [hz1]; omega) (hownW.cells (g := g) rfl)
  have hr := run_append_grow_src (P := Try.prog) W 22 tx 22 5 i (.int .u8 0) Try.underlying22 hi hz0 a n n xs hold x m news hs' (by omega) (by omega) (growslice_fits (by omega) (by rw [hz2]; omega))
  refine ⟨W.heap.size, _, _, hr, ⟨by omega, .inr ⟨W.heap.size, _, _, rfl, hb0.size, heap_alloc_new W.drew _, hge, hcm, ?_, ?_⟩⟩, ?_⟩
  · simp only [Array.size_append, List.size_toArray, size_zeroCells, hlen]
    show n + m + (grownCap W (n + m) n 5 - (n + m)) * 1 = _
    omega
  · simp only [Array.toList_append]
    rw [Nat.mul_one, ← hlen]
    exact List.take_left
  · exact (hb0.drew).alloc (by simpa using hb0.size) _

/-- A line break goes out as a space. -/
def clean (y : Int) : Int := if y = 13 ∨ y = 10 then 32 else y

/-- What a call of ZZappendLine leaves. -/
def LinePost (w : World) (n : Nat) (T : List Int) (e : Ending) (w' : World) : Prop :=
  ∃ g cap, e = .returned (.slice (some ⟨g, 0, none⟩) n cap) ∧ w'.ownsRow w.heap.size 5 1 (.slice (some ⟨g, 0, none⟩) n cap) n (T.map (Value.int .u8)) ∧ Below w.heap.size w w'

/-- The state of the loop: k bytes of the text have gone out. -/
def Lining (w : World) (a : Option Addr) (n : Nat) (zs ts : List Int) (k : Nat) (o : Value) (wr : World) : Prop :=
  (k = 0 ∧ o = .slice a n n ∧ wr = w) ∨ (0 < k ∧ wr.ownsRow w.heap.size 5 1 o (n + k) ((zs ++ (ts.take k).map clean).map (Value.int .u8)) ∧ Below w.heap.size w wr)

theorem Lining.below {w : World} {a : Option Addr} {n : Nat} {zs ts : List Int} {k : Nat} {o : Value} {wr : World} (h : Lining w a n zs ts k o wr) : Below w.heap.size w wr := by
  rcases h with ⟨_, _, rfl⟩ | ⟨_, _, h⟩
  · exact Below.refl _ _
  · exact h

theorem Lining.shape {w : World} {base : Nat} {a : Option Addr} {n : Nat} {zs ts : List Int} {k : Nat} {o : Value} {wr : World} (h : Lining w a n zs ts k o wr) : ∃ b cp, o = .slice b (n + k) cp := by
  rcases h with ⟨rfl, rfl, _⟩ | ⟨_, h, _⟩
  · exact ⟨_, _, rfl⟩
  · rcases h.2 with ⟨h1, h2⟩ | ⟨g, cp, _, h1, _⟩
    · exact ⟨_, _, by rw [h1, h2]⟩
    · exact ⟨_, _, h1⟩

/-- One append more, of whatever source. -/
theorem Lining.app {w : World} {base : Nat} {a : Option Addr} {n : Nat} {zs ts : List Int} {k : Nat} {o : Value} {wr : World} (h : Lining w a n zs ts k o wr) (hown : w.ownsRow base 5 1 (.slice a n n) n (zs.map (Value.int .u8)))
    (W : World) (hW : Below wr.heap.size wr W) (tx : TypeId) (x : Value) (m : Nat) (news : List Int) (hs : Src Try.prog 1 tx x m (news.map (Value.int .u8)) W) (hm : 0 < m) (hn : n + k + m ≤ 16777216) :
    ∃ g cap w', (Builtin.append_ #[22, tx] 22 #[o, x]).run Try.prog W = .ok (.slice (some ⟨g, 0, none⟩) (n + k + m) cap) w' ∧
      w'.ownsRow w.heap.size 5 1 (.slice (some ⟨g, 0, none⟩) (n + k + m) cap) (n + k + m) ((zs ++ (ts.take k).map clean ++ news).map (Value.int .u8)) ∧ Below w.heap.size w w' := by
  rcases h with ⟨rfl, rfl, rfl⟩ | ⟨hk, ho, hb⟩
  · obtain ⟨g, cap, w', h1, h2, h3⟩ := append_fresh wr W base a n _ hown hW tx x m _ hs hm (by omega)
    exact ⟨g, cap, w', h1, by simpa using h2, h3⟩
  · obtain ⟨g, cap, w', h1, h2, _, _, h3⟩ := append_byte W w.heap.size tx 22 o (n + k) _ (ownsRow_below ho hW) x m _ hs hm (by omega) (Nat.le_trans hb.size hW.size)
    exact ⟨g, cap, w', h1, by rw [List.map_append]; exact h2, (hb.trans (hW.mono hb.size)).trans h3⟩

theorem take_clean (ts : List Int) (k : Nat) (hk : k < ts.length) : (ts.take (k + 1)).map clean = (ts.take k).map clean ++ [clean (ts.getD k 0)] := by
  rw [List.take_succ_eq_append_getElem hk, List.map_append, List.map_cons, List.map_nil]
  simp only [List.getD, List.getElem?_eq_getElem hk, Option.getD_some]

theorem appLine (w : World) (base : Nat) (a t : Option Addr) (n m cp : Nat) (zs ts : List Int) (hown : w.ownsRow base 5 1 (.slice a n n) n (zs.map (Value.int .u8))) (ht : Row .u8 w t ts) (htl : ts.length = m) (hnm : n + m + 2 ≤ 16777216) :
    Calls Try.prog 11 #[.slice a n n, .slice t m cp] w (LinePost w (n + m + 2) (zs ++ ts.map clean ++ [13, 10])) := by
  have HO : Hid (w.ownsRow base 5 1 (.slice a n n) n (zs.map (Value.int .u8))) := hown
  have HT : Hid (Row .u8 w t ts) := ht
  have HL : Hid (ts.length = m) := htl
  clear hown ht htl
  go_enter Try.func11, Try.ntmps11
  go_wp2
  go_loopw [0, 9] (fun o i wr => ∃ k : Nat, k ≤ m ∧ i = .int .i64 k ∧ Hid (Lining w a n zs ts k o wr)) (fun _ i _ => m - (intOf i).toNat)
  case atStart => exact ⟨0, Nat.zero_le _, rfl, .inl ⟨rfl, rfl, rfl⟩⟩
  case round =>
    obtain ⟨k, hk, rfl, HX⟩ := hrel
    obtain ⟨b, c0, hsh⟩ := HX.out.shape (base := base)
    subst hsh
    by_cases hlt : k < m
    · obtain ⟨tb, to, rfl, hck⟩ : ∃ b off, t = some ⟨b, off, none⟩ ∧ wr.cell? ⟨b, off + k, none⟩ = some (.int .u8 (ts.getD k 0)) := by
        rcases HT.out.below HX.out.below with h | ⟨b, off, h1, h2⟩
        · have := HL.out; rw [h] at this; simp at this; omega
        · exact ⟨b, off, h1, h2 k (by rw [HL.out]; exact hlt)⟩
      have htc := take_clean ts k (by rw [HL.out]; exact hlt)
      obtain ⟨y, hy⟩ : ∃ y, ts.getD k 0 = y := ⟨_, rfl⟩
      rw [hy] at hck htc
      have key : ∀ y' : Int, clean y = y' → ∃ g cap w', Hid ((Builtin.append_ #[22, 22] 22 #[.slice b (n + k) c0, .slice (some ⟨wr.heap.size, 0, none⟩) 1 1]).run Try.prog (wr.alloc (.cells #[.int .u8 y'] 5)) = .ok (.slice (some ⟨g, 0, none⟩) (n + k + 1) cap) w') ∧ Hid (Lining w a n zs ts (k + 1) (.slice (some ⟨g, 0, none⟩) (n + k + 1) cap) w') := by
        intro y' hy'
        have hW : Below wr.heap.size wr (wr.alloc (.cells (([y'] : List Int).map (Value.int .u8)).toArray 5)) := (Below.refl _ _).alloc (Nat.le_refl _) _
        obtain ⟨g, cap, w', h1, h2, h3⟩ := HX.out.app HO.out _ hW 22 (.slice (some ⟨wr.heap.size, 0, none⟩) 1 1) 1 [y'] (Src.ofSlice _ Try.underlying22 ⟨wr.heap.size, 0, none⟩ 1 1 _ (by simp) (World.news_of_block (cs := #[.int .u8 y']) (t := 5) (fr := (0, 0)) (heap_alloc_new wr _)) (ints_oneCell _ _)) (by omega) (by omega)
        refine ⟨g, cap, w', h1, .inr ⟨by omega, ?_, h3⟩⟩
        rw [htc, hy', ← List.append_assoc]
        exact h2
      clear htc hy
      by_cases h13 : y = 13
      · subst h13
        obtain ⟨g, cap, w', HA, HN⟩ := key 32 rfl
        clear key
        go_wp2_with (at_builtin; refine wpList_append_run rfl (.tmp 19) (.tmp 21) 22 22 rfl 22 rfl _ _ _ rfl rfl HA.out ?_)
        go_roundw
        case rel => exact ⟨k + 1, by omega, by go_num, HN⟩
        case measure => simp [intOf]; omega
      by_cases h10 : y = 10
      · subst h10
        obtain ⟨g, cap, w', HA, HN⟩ := key 32 rfl
        clear key
        go_wp2_with (at_builtin; refine wpList_append_run rfl (.tmp 19) (.tmp 21) 22 22 rfl 22 rfl _ _ _ rfl rfl HA.out ?_)
        go_roundw
        case rel => exact ⟨k + 1, by omega, by go_num, HN⟩
        case measure => simp [intOf]; omega
      obtain ⟨g, cap, w', HA, HN⟩ := key y (by unfold clean; rw [if_neg (by omega)])
      clear key
      have b13 : (y == 13) = false := beq_eq_false_iff_ne.2 h13
      have b10 : (y == 10) = false := beq_eq_false_iff_ne.2 h10
      go_wp2_with (at_builtin; refine wpList_append_run rfl (.tmp 19) (.tmp 21) 22 22 rfl 22 rfl _ _ _ rfl rfl HA.out ?_)
      go_roundw
      case rel => exact ⟨k + 1, by omega, by go_num, HN⟩
      case measure => simp [intOf]; omega
    · obtain rfl : k = m := by omega
      have hall : ts.take k = ts := List.take_of_length_le (by rw [HL.out]; exact Nat.le_refl _)
      obtain ⟨g, cap, w', hrun, ho, hb⟩ := HX.out.app HO.out wr (Below.refl _ _) 9 (.string ⟨#[13, 10]⟩) 2 [13, 10] (Src.ofString wr Try.underlying9 ⟨#[13, 10]⟩) (by omega) (by omega)
      rw [hall] at ho
      have HA : Hid ((Builtin.append_ #[22, 9] 22 #[.slice b (n + k) c0, .string ⟨#[13, 10]⟩]).run Try.prog wr = .ok (.slice (some ⟨g, 0, none⟩) (n + k + 2) cap) w') := hrun
      have HF : Hid (w'.ownsRow w.heap.size 5 1 (.slice (some ⟨g, 0, none⟩) (n + k + 2) cap) (n + k + 2) ((zs ++ ts.map clean ++ [13, 10]).map (Value.int .u8)) ∧ Below w.heap.size w w') := ⟨ho, hb⟩
      clear hrun ho hb hall HX
      go_wp2_with (at_builtin; refine wpList_append_run rfl (.tmp 24) _ 22 9 rfl 22 rfl _ _ _ rfl rfl HA.out ?_)
      go_ret
      exact ⟨g, cap, rfl, HF.out⟩

end Go.Proofs.Qxb6605347a
