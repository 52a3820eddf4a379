/- The walk of FnAppendEscapeSequenceReadsBack. -/
import Derived.Test.Qxb6605303aSeqPlain
import Derived.Test.Qxb6605303aExact
namespace Go.Proofs.Qxb6605303a
open Go.RowKit
set_option linter.unusedVariables false

set_option maxRecDepth 100000 in
set_option maxHeartbeats 1000000 in
theorem seq_walk (a0 : Option Addr) (len0 cap0 : Nat) (z0 : List Int) (a1 : Option Addr) (len1 cap1 : Nat) (z1 : List Int) (w : World) (w0 : InRow .u8 w a0 len0 cap0 z0) (w1 : InRow .i32 w a1 len1 cap1 z1) :
    Calls Try.prog 4 #[.slice a0 len0 cap0, .slice a1 len1 cap1] w fun e w' => e = .returned (.bool true) ∧ Below w.heap.size w w' := by
  by_cases hbig : (1048576 : Int) < len0
  · clear w0 w1
    go_enter Try.func4, Try.ntmps4
    go_wp2
    go_ret
    exact ⟨rfl, Below.refl _ _⟩
  by_cases hbig1 : (1048576 : Int) < len1
  · clear w0 w1
    go_enter Try.func4, Try.ntmps4
    go_wp2
    go_ret
    exact ⟨rfl, Below.refl _ _⟩
  by_cases hbig2 : (1048576 : Int) < (len0 : Int) + len1
  · clear w0 w1
    go_enter Try.func4, Try.ntmps4
    go_wp2
    go_ret
    exact ⟨rfl, Below.refl _ _⟩
  by_cases hbig3 : (524288 : Int) < len0
  · clear w0 w1
    go_enter Try.func4, Try.ntmps4
    go_wp2
    go_ret
    exact ⟨rfl, Below.refl _ _⟩
  by_cases hbig4 : (65536 : Int) < len1
  · clear w0 w1
    go_enter Try.func4, Try.ntmps4
    go_wp2
    go_ret
    exact ⟨rfl, Below.refl _ _⟩
  have hwf := w0.wf
  have HW0 : Hid (InRow .u8 w a0 len0 cap0 z0) := w0
  obtain ⟨zs, hzs⟩ : ∃ zs, z0.take len0 = zs := ⟨_, rfl⟩
  have HZ0 : Hid (z0.take len0 = zs) := hzs
  rw [hzs] at hwf
  have HF : Hid (∀ n ∈ zs, (Lit.int .u8 n).wf = true) := hwf
  have HW1 : Hid (InRow .i32 w a1 len1 cap1 z1) := w1
  obtain ⟨hrow, hlen⟩ := w1.row
  obtain ⟨rs, hrs⟩ : ∃ rs, z1.take len1 = rs := ⟨_, rfl⟩
  have HZ1 : Hid (z1.take len1 = rs) := hrs
  rw [hrs] at hrow hlen
  have HR : Hid (Row .i32 w a1 rs) := hrow
  have HL : Hid (rs.length = len1) := hlen
  clear w0 w1 hzs hwf hrow hlen hrs
  go_enter Try.func4, Try.ntmps4
  go_wp2
  go_loop [5] (fun i => ∃ k : Nat, k ≤ len1 ∧ i = .int .i64 k ∧ Hid (∀ j, j < k → 0 ≤ rs.getD j 0 ∧ rs.getD j 0 ≤ 65535)) (fun i => len1 - (intOf i).toNat)
  case atStart => exact ⟨0, Nat.zero_le _, rfl, fun j hj => absurd hj (by omega)⟩
  case round =>
    obtain ⟨k, hk, rfl, HB⟩ := hrel
    by_cases hlt : k < len1
    · obtain ⟨b, off, rfl, hck⟩ : ∃ b off, a1 = some ⟨b, off, none⟩ ∧ w.cell? ⟨b, off + k, none⟩ = some (.int .i32 (rs.getD k 0)) := by
        rcases HR.out with h | ⟨b, off, h1, h2⟩
        · have := HL.out; rw [h] at this; simp at this; omega
        · exact ⟨b, off, h1, h2 k (by rw [HL.out]; exact hlt)⟩
      obtain ⟨z, hz⟩ : ∃ z, rs.getD k 0 = z := ⟨_, rfl⟩
      rw [hz] at hck
      have HK : Hid (rs.getD k 0 = z) := hz
      clear hz
      by_cases h1 : z < 0
      · go_wp2
        go_ret
        exact ⟨rfl, Below.refl _ _⟩
      by_cases h2 : 65535 < z
      · go_wp2
        go_ret
        exact ⟨rfl, Below.refl _ _⟩
      go_wp2
      go_round
      case rel =>
        refine ⟨k + 1, by omega, by go_num, fun j hj => ?_⟩
        by_cases hjk : j < k
        · exact HB.out j hjk
        · obtain rfl : j = k := by omega
          rw [HK.out]; omega
      case measure => simp [intOf]; omega
    · have hkl : k = len1 := by omega
      have HBB : Hid (∀ j, j < rs.length → 0 ≤ rs.getD j 0 ∧ rs.getD j 0 ≤ 65535) := by
        have := HB.out; rw [HL.out, ← hkl]; exact this
      have hge : ¬ ((k : Int) < len1) := by omega
      clear HB HR hkl hlt
      go_wp2_with fail
      refine (clone_any a0 len0 cap0 z0 w HW0.out (by omega)).mono ?_
      rintro e W1 ⟨v1, rfl, hown1, hb1⟩
      rw [HZ0.out] at hown1
      obtain ⟨hr1, hl1⟩ := ownsRow_row hown1
      have HO1 : Hid (InRow .u8 W1 v1 len0 len0 zs) := owns_in hown1 HF.out
      have HR1 : Hid (Row .u8 W1 v1 zs) := hr1
      have HLZ : Hid (zs.length = len0) := hl1
      have HT : Hid (zs.take len0 = zs) := List.take_of_length_le (by omega)
      have HI1 : Hid (InRow .i32 W1 a1 len1 cap1 z1) := by
        rcases HW1.out with h | ⟨x, h1, h2, h3, h4, h5, h6⟩
        · exact .inl h
        · exact .inr ⟨x, h1, h2, h3, h4, fun i hi => cell_later hb1 (h5 i hi), h6⟩
      clear hown1 hr1 hl1 HF HZ0 HW0 HW1
      go_wp2_with fail
      refine (cloneRunes_any a1 len1 cap1 z1 W1 HI1.out (by omega)).mono ?_
      rintro e W2 ⟨u, rfl, hownu, hb2⟩
      rw [HZ1.out] at hownu
      have HU2 : Hid (Row .i32 W2 u rs) := (ownsRow_row hownu).1
      have HO2 : Hid (InRow .u8 W2 v1 len0 len0 zs) := by
        rcases HO1.out with h | ⟨x, h1, h2, h3, h4, h5, h6⟩
        · exact .inl h
        · exact .inr ⟨x, h1, h2, h3, h4, fun i hi => cell_later hb2 (h5 i hi), h6⟩
      have HR2 : Hid (Row .u8 W2 v1 zs) := HR1.out.below hb2
      have hbw2 : Below w.heap.size w W2 := hb1.trans (hb2.mono hb1.size)
      clear hownu HI1 HO1 HR1 HZ1 hb1 hb2
      go_wp2_with fail
      refine (clone_any v1 len0 len0 zs W2 HO2.out (by omega)).mono ?_
      rintro e W3 ⟨v3, rfl, hown3, hb3⟩
      rw [HT.out] at hown3
      have HB3 : Hid (Below W2.heap.size W2 W3) := hb3
      have HO3 : Hid (W3.ownsRow W2.heap.size 5 1 (.slice v3 len0 len0) len0 (zs.map (Value.int .u8))) := hown3
      have HBW : Hid (Below w.heap.size w W2) := hbw2
      clear hb3 hown3 HO2 HT hbw2
      go_wp2
      go_loopw [6, 7] (fun o i wr => ∃ k : Nat, k ≤ len1 ∧ i = .int .i64 k ∧ Hid (wr.ownsRow W2.heap.size 5 1 o (len0 + escLen rs k) ((zs ++ escAll (rs.take k)).map (Value.int .u8))) ∧ Hid (Below W2.heap.size W2 wr)) (fun _ i _ => len1 - (intOf i).toNat)
      case atStart => exact ⟨0, Nat.zero_le _, rfl, show World.ownsRow _ _ _ _ _ _ _ from by simpa [escAll, escLen] using HO3.out, HB3.out⟩
      case round =>
        obtain ⟨j, hj, rfl, HO, HBr⟩ := hrel
        have hLb := escLen_bound rs HBB.out j (by rw [HL.out]; exact hj)
        by_cases hlt : j < len1
        · obtain ⟨b, off, rfl, hck⟩ : ∃ b off, u = some ⟨b, off, none⟩ ∧ wr.cell? ⟨b, off + j, none⟩ = some (.int .i32 (rs.getD j 0)) := by
            rcases HU2.out.below HBr.out with h | ⟨b, off, h1, h2⟩
            · have := HL.out; rw [h] at this; simp at this; omega
            · exact ⟨b, off, h1, h2 j (by rw [HL.out]; exact hlt)⟩
          have hzb := HBB.out j (by rw [HL.out]; exact hlt)
          have hst := escLen_step rs j (by rw [HL.out]; exact hlt)
          have hsa := escAll_step rs j (by rw [HL.out]; exact hlt)
          obtain ⟨z, hz⟩ : ∃ z, rs.getD j 0 = z := ⟨_, rfl⟩
          rw [hz] at hck hzb hst hsa
          have HST : Hid (escLen rs (j + 1) = escLen rs j + (esc z.toNat).length) := hst
          have HSA : Hid (escAll (rs.take (j + 1)) = escAll (rs.take j) ++ esc z.toNat) := hsa
          have hsz := HBr.out.size
          clear hst hsa hz
          go_wp2_with fail
          refine (appEsc' wr W2.heap.size _ (len0 + escLen rs j) _ HO.out (by omega) hsz z z.toNat (by omega) (by omega) _ rfl).mono ?_
          rintro e wr' ⟨g, cap, rfl, ho, hb⟩
          have HN : Hid (wr'.ownsRow W2.heap.size 5 1 (.slice (some ⟨g, 0, none⟩) (len0 + escLen rs j + (esc z.toNat).length) cap) (len0 + escLen rs (j + 1)) ((zs ++ escAll (rs.take (j + 1))).map (Value.int .u8))) := by
            rw [HSA.out, HST.out, ← List.append_assoc, ← Nat.add_assoc]; exact ho
          clear ho
          go_wp2
          go_roundw
          case rel => exact ⟨j + 1, by omega, by go_num, HN.out, HBr.out.trans hb⟩
          case measure => simp [intOf]; omega
        · obtain rfl : j = len1 := by omega
          clear hlt
          have hall := escLen_all rs j HL.out
          have htk : rs.take j = rs := List.take_of_length_le (by rw [HL.out]; exact Nat.le_refl _)
          have hown := HO.out
          rw [htk] at hown
          have hbel : Below w.heap.size w wr := HBW.out.trans (HBr.out.mono HBW.out.size)
          have HU : Hid (Row .i32 wr u rs) := HU2.out.below HBr.out
          have HV : Hid (Row .u8 wr v1 zs) := HR2.out.below HBr.out
          have hmono := escLen_mono rs HBB.out 0 j (by rw [Nat.zero_add, HL.out]; exact Nat.le_refl _)
          rw [Nat.zero_add, escLen_zero] at hmono
          obtain ⟨T, hT⟩ : ∃ T, escLen rs j = T := ⟨_, rfl⟩
          rw [hT] at hown hLb hmono hall
          have HBW' : Hid (Below w.heap.size w wr) := hbel
          have HT : Hid (escLen rs j = T) := hT
          have HAL : Hid ((escAll rs).length = T) := hall.symm
          clear HO HO3 HB3 HBW HU2 HR2 HBr hbel hall hT htk
          by_cases hj0 : j = 0
          · subst hj0
            obtain rfl : T = 0 := by omega
            have hrs : rs = [] := List.eq_nil_of_length_eq_zero HL.out
            subst hrs
            have hnil : escAll [] = [] := rfl
            rw [hnil, List.append_nil, Nat.add_zero] at hown
            have hvz := (show zs.length = len0 from HLZ.out)
            rcases hown.2 with ⟨rfl, rfl⟩ | ⟨g, cp, cur, rfl, _, _, hnc, _, _, _⟩
            · have HP : Hid (Row .u8 wr none zs) := .inl (List.eq_nil_of_length_eq_zero hvz)
              clear hown hvz hnil
              go_wp2_with fail
              refine (equal_same none v1 0 0 0 zs HLZ.out (by omega) wr HP.out HV.out).mono ?_
              rintro e W4 ⟨rfl, q, rfl⟩
              go_wp2
              go_loop [9] (fun i => i = .int .i64 0) (fun _ => 0)
              case atStart => rfl
              case round =>
                subst hrel
                go_wp2
                go_loop [10, 11] (fun p k => p = .int .i64 0 ∧ k = .int .i64 0) (fun _ _ => 0)
                case atStart => exact ⟨rfl, rfl⟩
                case round =>
                  obtain ⟨rfl, rfl⟩ := hrel
                  go_wp2
                  go_ret
                  exact ⟨rfl, below_drewN HBW'.out q⟩
            · have HP : Hid (Row .u8 wr (some ⟨g, 0, none⟩) zs) := .inr ⟨g, 0, rfl, fun i hi => by rw [Nat.zero_add]; exact (owned_cells hown).2.2 i (by omega)⟩
              clear hown hvz hnil
              by_cases hcl : cp = len0
              · subst hcl
                go_wp2_with fail
                refine (equal_same (some ⟨g, 0, none⟩) v1 cp cp cp zs HLZ.out (by omega) wr HP.out HV.out).mono ?_
                rintro e W4 ⟨rfl, q, rfl⟩
                go_wp2
                go_loop [9] (fun i => i = .int .i64 0) (fun _ => 0)
                case atStart => rfl
                case round =>
                  subst hrel
                  go_wp2
                  go_loop [10, 11] (fun p k => p = .int .i64 0 ∧ k = .int .i64 0) (fun _ _ => 0)
                  case atStart => exact ⟨rfl, rfl⟩
                  case round =>
                    obtain ⟨rfl, rfl⟩ := hrel
                    go_wp2
                    go_ret
                    exact ⟨rfl, below_drewN HBW'.out q⟩
              · go_wp2_with fail
                refine (equal_same (some ⟨g, 0, none⟩) v1 len0 cp len0 zs HLZ.out (by omega) wr HP.out HV.out).mono ?_
                rintro e W4 ⟨rfl, q, rfl⟩
                go_wp2
                go_loop [9] (fun i => i = .int .i64 0) (fun _ => 0)
                case atStart => rfl
                case round =>
                  subst hrel
                  go_wp2
                  go_loop [10, 11] (fun p k => p = .int .i64 0 ∧ k = .int .i64 0) (fun _ _ => 0)
                  case atStart => exact ⟨rfl, rfl⟩
                  case round =>
                    obtain ⟨rfl, rfl⟩ := hrel
                    go_wp2
                    go_ret
                    exact ⟨rfl, below_drewN HBW'.out q⟩
          · obtain ⟨g, cap, rfl, _, _⟩ := hown.form (by omega)
            obtain ⟨hlx, hcap, hcells⟩ := owned_cells hown
            have hvz := (show zs.length = len0 from HLZ.out)
            have HP : Hid (Row .u8 wr (some ⟨g, 0, none⟩) zs) := .inr ⟨g, 0, rfl, fun i hi => by rw [Nat.zero_add, hcells i (by omega), getD_left _ _ _ hi]⟩
            have HC : Hid (∀ i, i < T → wr.cell? ⟨g, len0 + i, none⟩ = some (.int .u8 ((escAll rs).getD i 0))) := fun i hi => by
              rw [hcells (len0 + i) (by omega), ← hvz, getD_right]
            have hcl : ¬ cap = len0 := by omega
            have hdd : decide ((len0 : Int) + (T : Int) < len0) = false := by simp; omega
            clear hown hlx hcells hvz
            go_wp2_with fail
            refine (equal_same (some ⟨g, 0, none⟩) v1 len0 cap len0 zs HLZ.out (by omega) wr HP.out HV.out).mono ?_
            rintro e W4 ⟨rfl, q, rfl⟩
            go_wp2
            go_loop [9] (fun i => ∃ k : Nat, k ≤ T ∧ i = .int .i64 k) (fun i => T - (intOf i).toNat)
            case atStart => exact ⟨0, Nat.zero_le _, rfl⟩
            case round =>
              obtain ⟨i, hi, rfl⟩ := hrel
              by_cases hiT : i < T
              · have hck := HC.out i hiT
                have hpr : 32 ≤ (escAll rs).getD i 0 ∧ (escAll rs).getD i 0 ≤ 126 := by
                  have hil : i < (escAll rs).length := by rw [HAL.out]; exact hiT
                  have := escAll_print rs HBB.out ((escAll rs)[i]) (List.getElem_mem hil)
                  simpa [List.getD, hil] using this
                obtain ⟨y, hy⟩ : ∃ y, (escAll rs).getD i 0 = y := ⟨_, rfl⟩
                rw [hy] at hck hpr
                have p1 : decide (y < 32) = false := by simp; omega
                have p2 : decide (126 < y) = false := by simp; omega
                clear hy
                go_wp2
                go_round
                case rel => exact ⟨i + 1, by omega, by go_num⟩
                case measure => simp [intOf]; omega
              · obtain rfl : i = T := by omega
                go_wp2
                go_loop [10, 11] (fun p k => ∃ c : Nat, c ≤ j ∧ k = .int .i64 c ∧ ∃ P : Nat, p = .int .i64 P ∧ Hid (escLen rs c = P)) (fun _ k => j - (intOf k).toNat)
                case atStart => exact ⟨0, Nat.zero_le _, rfl, 0, rfl, rfl⟩
                case round =>
                  obtain ⟨c, hc, rfl, P, rfl, HPc⟩ := hrel
                  by_cases hcj : c < j
                  · have hcr : c < rs.length := by rw [HL.out]; exact hcj
                    obtain ⟨b, off, rfl, hck⟩ : ∃ b off, u = some ⟨b, off, none⟩ ∧ wr.cell? ⟨b, off + c, none⟩ = some (.int .i32 (rs.getD c 0)) := by
                      rcases HU.out with h | ⟨b, off, h1, h2⟩
                      · rw [h] at hcr; simp at hcr
                      · exact ⟨b, off, h1, h2 c hcr⟩
                    have hzb := HBB.out c hcr
                    have hst := escLen_step rs c hcr
                    have hm1 := escLen_mono rs HBB.out (c + 1) (j - (c + 1)) (by rw [HL.out]; omega)
                    rw [show c + 1 + (j - (c + 1)) = j by omega, HT.out, hst, HPc.out] at hm1
                    have hat := escAll_at rs c hcr
                    rw [HPc.out] at hat
                    obtain ⟨r, hr⟩ : ∃ r : Nat, rs.getD c 0 = (r : Int) := ⟨(rs.getD c 0).toNat, by omega⟩
                    rw [hr] at hck hzb hst hm1 hat
                    rw [Int.toNat_natCast] at hst hm1 hat
                    obtain ⟨m, hmd⟩ : ∃ m, (esc r).length = m := ⟨_, rfl⟩
                    have hml := esc_len r (by omega)
                    rw [hmd] at hst hm1 hml hat
                    have HM : Hid ((esc r).length = m) := hmd
                    have HN : Hid (escLen rs (c + 1) = P + m) := show escLen rs (c + 1) = P + m from by rw [hst, HPc.out]
                    have HE : Hid (∀ i, i < m → wr.cell? ⟨g, len0 + (P + i), none⟩ = some (.int .u8 ((esc r).getD i 0))) := fun i hi => by
                      rw [HC.out (P + i) (by omega), hat i hi]
                    clear hst hat hmd hr
                    have hPT : (P : Int) < i := by omega
                    go_wp2_with fail
                    refine (decode' g len0 i (cap - len0) P r _ rfl (by omega) (wr.drewN q) (by omega) m HM.out (by omega) (fun i hi => HE.out i hi)).mono ?_
                    rintro e W5 ⟨rfl, rfl⟩
                    have hg1 : decide ((j : Int) ≤ c) = false := by simp; omega
                    have hg2 : (c : Int) < j := by omega
                    go_wp2
                    go_round
                    case rel => exact ⟨c + 1, by omega, by go_num, P + m, by go_num, HN.out⟩
                    case measure => simp [intOf]; omega
                  · obtain rfl : c = j := by omega
                    have hPT : P = i := by have := HPc.out; have h2 := HT.out; omega
                    subst hPT
                    go_wp2
                    go_ret
                    exact ⟨rfl, below_drewN HBW'.out q⟩

end Go.Proofs.Qxb6605303a
