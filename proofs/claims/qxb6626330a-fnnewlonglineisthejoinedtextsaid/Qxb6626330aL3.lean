/-
  Seat b6626330a: the law FnNewLongLineIsTheJoinedText, walked.
-/
import Derived.Test.Qxb6626330aL4
import Derived.Test.Qxb6626330aW11
namespace Go.Proofs.Qxb6626330a
open Go.RowKit

set_option maxHeartbeats 2000000 in
set_option maxRecDepth 100000 in
theorem walk3 (a0 a1 : Option Addr) (c0 c1 : Nat) (ls : List (List Int)) (lb : List Int) (w : World) (h0 : Blk w a0 ls) (h1 : Byt w a1 lb) :
    Calls Try.prog 3 #[.slice a0 ls.length c0, .slice a1 lb.length c1] w fun e w' => e = .returned (.bool true) ∧ Below w.heap.size w w' := by
  go_enter Try.func3, Try.ntmps3
  go_wp2_with fail
  refine (zz5 a0 a1 c0 c1 lb.length ls w h0).mono ?_
  rintro e w1 ⟨⟨r, rfl⟩, hw⟩
  rw [hw]
  clear hw
  cases r with
  | false =>
    go_wp2
    go_ret
    exact ⟨rfl, Below.refl _ _⟩
  | true =>
    by_cases hN : ls.length ≤ 65536
    · by_cases hB : lb.length ≤ 1048576
      · go_wp2
        go_loop [5, 6] (fun z i => ∃ k s : Nat, k ≤ ls.length ∧ i = .int .i64 k ∧ z = .int .i64 s ∧ s ≤ 1048576 ∧ lb.length + pre ls k ≤ s) (fun _ i => ls.length - (intOf i).toNat)
        case atStart => exact ⟨0, lb.length, Nat.zero_le _, rfl, rfl, hB, by rw [pre_zero]; omega⟩
        case round =>
          obtain ⟨k, s, hk, rfl, rfl, hs, hps⟩ := hrel
          by_cases hlt : k < ls.length
          · obtain ⟨b, off, a', c', ha, hc, _⟩ := h0.at hlt
            have HS : Hid (pre ls (k + 1) = pre ls k + (ls.getD k []).length) := pre_succ ls k hlt
            subst ha
            generalize (ls.getD k []).length = m at hc HS
            by_cases hm : m ≤ 1048576
            · by_cases hsm : s + (8 + m) ≤ 1048576
              · go_wp2
                go_round
                case rel => exact ⟨k + 1, s + (8 + m), by omega, by go_num, by go_num, by omega, by rw [HS.out]; omega⟩
                case measure => simp [intOf]; omega
              · go_wp2
                go_ret
                exact ⟨rfl, Below.refl _ _⟩
            · go_wp2
              go_ret
              exact ⟨rfl, Below.refl _ _⟩
          · have hkl : k = ls.length := by omega
            subst hkl
            go_wp2
            go_loop [7] (fun i => ∃ k : Nat, k ≤ ls.length ∧ i = .int .i64 k ∧ ∀ j, j < k → 0 < (ls.getD j []).length) (fun i => ls.length - (intOf i).toNat)
            case atStart => exact ⟨0, Nat.zero_le _, rfl, fun j hj => absurd hj (Nat.not_lt_zero _)⟩
            case round =>
              obtain ⟨k, hk, rfl, hfk⟩ := hrel
              have HFK : Hid (∀ j, j < k → 0 < (ls.getD j []).length) := hfk
              clear hfk
              by_cases hlt : k < ls.length
              · obtain ⟨b, off, a', c', ha, hc, _⟩ := h0.at hlt
                subst ha
                obtain ⟨m, hm⟩ : ∃ m, (ls.getD k []).length = m := ⟨_, rfl⟩
                rw [hm] at hc
                have HM : Hid ((ls.getD k []).length = m) := hm
                clear hm
                by_cases hm0 : m = 0
                · have e1 : ((m : Int) == 0) = true := by simp; omega
                  go_wp2
                  go_ret
                  exact ⟨rfl, Below.refl _ _⟩
                · have e1 : ((m : Int) == 0) = false := beq_false_of_ne (by omega)
                  go_wp2
                  go_round
                  case rel =>
                    refine ⟨k + 1, by omega, by go_num, fun j hj => ?_⟩
                    by_cases hjk : j = k
                    · subst hjk; rw [HM.out]; omega
                    · exact HFK.out j (by omega)
                  case measure => simp [intOf]; omega
              · have hkl : k = ls.length := by omega
                subst hkl
                have HF : Hid (Full ls) := HFK.out
                clear HFK hk hlt
                go_wp2_with fail
                refine (join6 a0 a1 c0 c1 ls lb w (by omega) (by omega) h0 h1).mono ?_
                rintro e w2 ⟨⟨tg, tc, rfl, hbT, hTc, hTm⟩, hb2⟩
                have hTl := text_len ls lb
                obtain ⟨T, hT⟩ : ∃ T, text ls lb = T := ⟨_, rfl⟩
                rw [hT] at hbT hTc hTl ⊢
                have HT : Hid (text ls lb = T ∧ T.length = pre ls ls.length + lb.length) := ⟨hT, hTl⟩
                have hTb : T.length ≤ 1048576 := by omega
                have hl2 : lb.length ≤ T.length := by omega
                have h02 := h0.keep hb2
                have h12 := h1.keep hb2
                unfold maxLen at hTm
                clear hT hTl h0 h1 hps
                go_wp2_with fail
                refine (clone7 a0 c0 ls w2 (by omega) ?hl7 h02).mono ?_
                case hl7 =>
                  intro i hi
                  have e1 := pre_succ ls i hi
                  have e2 := pre_mono ls (i + 1) ls.length (by omega) (Nat.le_refl _)
                  have e3 := HT.out.2
                  omega
                rintro e w3 ⟨⟨af, cf, rfl, hbf⟩, hb3⟩
                have h03 := h02.keep hb3
                have h13 := h12.keep hb3
                have hbT3 := hbT.keep hb3
                have hb13 : Below w.heap.size w w3 := hb2.trans (hb3.mono hb2.size)
                clear h12 hbT h02 hb2 hb3
                go_wp2_with fail
                refine (clone8n a1 lb.length c1 lb w3 rfl (by omega) h13).mono ?_
                rintro e w4 ⟨⟨ab, cb, rfl, hbb⟩, hb4⟩
                have hbT4 := hbT3.keep hb4
                have hbf4 := hbf.keep hb4
                have h04 := h03.keep hb4
                have h14 := h13.keep hb4
                have hb14 : Below w.heap.size w w4 := hb13.trans (hb4.mono hb13.size)
                clear hbT3 hbf h13 h03 hb13 hb4
                go_wp2_with fail
                refine (gath9 af ab ls.length cf lb.length cb _ w4).mono ?_
                rintro e w5 ⟨rfl, hw5⟩
                have hg : Gath w5 w4.heap.size ls lb := by rw [hw5]; exact Gath.mk ls lb af ab _ cf _ cb _ w4 rfl rfl hbf4 hbb
                have hb5 : Below w4.heap.size w4 w5 := by rw [hw5]; exact (Below.refl _ _).alloc (Nat.le_refl _) _
                have hbT5 := hbT4.keep hb5
                have h05 := h04.keep hb5
                have h15 := h14.keep hb5
                have hb15 : Below w.heap.size w w5 := hb14.trans (hb5.mono hb14.size)
                clear hw5 hbb hbf4 hbT4 h04 h14 hb14 hb5
                go_wp2_with fail
                refine (new10 w4.heap.size ls lb w5 (by omega) (by rw [HT.out.1]; omega) HF.out hg).mono ?_
                rintro e w6 ⟨⟨LA, rA, rfl, hLA⟩, hb6⟩
                rw [HT.out.1] at hLA
                have hbT6 := hbT5.keep hb6
                have h06 := h05.keep hb6
                have h16 := h15.keep hb6
                have hb16 : Below w.heap.size w w6 := hb15.trans (hb6.mono hb15.size)
                clear hg hbT5 h05 h15 hb15 hb6
                have HPN : Hid (pre (pcs ls lb) (pcs ls lb).length = T.length ∧ (pcs ls lb).flatten = T ∧ Full (pcs ls lb)) := ⟨(pre_pcs ls lb).trans (by rw [HT.out.1]), (flat_pcs ls lb).trans HT.out.1, full_pcs HF.out⟩
                obtain ⟨en, hen⟩ : ∃ en, endOf T = en := ⟨_, rfl⟩
                rw [hen] at hLA
                have HEN : Hid (endOf T = en) := hen
                clear hen
                by_cases hlb : 0 < lb.length
                · have hel : ∀ k, k < (pcs ls lb).length → (k < ls.length ∧ (pcs ls lb).getD k [] = ls.getD k []) ∨ (k = ls.length ∧ (pcs ls lb).getD k [] = lb) := by
                    intro k hk
                    rw [pcs_pos hlb] at hk ⊢
                    simp at hk
                    by_cases h : k < ls.length
                    · exact .inl ⟨h, app_left h⟩
                    · have e : k = ls.length := by omega
                      subst e
                      exact .inr ⟨rfl, app_last⟩
                  have hpl : (pcs ls lb).length = ls.length + 1 := by rw [pcs_pos hlb]; simp
                  have HEL : Hid (∀ k, k < (pcs ls lb).length → (k < ls.length ∧ (pcs ls lb).getD k [] = ls.getD k []) ∨ (k = ls.length ∧ (pcs ls lb).getD k [] = lb)) := hel
                  clear hel
                  generalize pcs ls lb = ps at hLA HPN hpl HEL
                  obtain ⟨aA, cA, sA, csA, kA0, kA1, kA2, kA3, kA4, hblkA, hsL, hst, _, _⟩ := hLA.cells
                  have s0 := hst 0 (Nat.zero_le _)
                  have sN := hst ps.length (Nat.le_refl _)
                  rw [pre_zero] at s0
                  rw [HPN.out.1] at sN kA2
                  rw [hpl] at sN kA0 kA1
                  have HPL : Hid (ps.length = ls.length + 1) := hpl
                  have HST : Hid (∀ j, j ≤ ps.length → w6.cell? ⟨sA, j, none⟩ = some (.int .i64 (pre ps j : Nat))) := hst
                  clear hpl hst kA4
                  go_wp2_with fail
                  refine (get11 LA _ w6 aA (ls.length + 1) cA rfl kA0).mono ?_
                  rintro e w' ⟨rfl, hw⟩
                  rw [hw]
                  clear hw kA0
                  go_wp2_with fail
                  refine (get12 LA w6 _ _ csA kA1).mono ?_
                  rintro e w' ⟨rfl, hw⟩
                  rw [hw]
                  clear hw kA1
                  have sN' : w6.cell? ⟨sA, ls.length + 1, none⟩ = some (.int .i64 (T.length : Nat)) := sN
                  have s0' : w6.cell? ⟨sA, 0, none⟩ = some (.int .i64 0) := s0
                  clear sN s0
                  go_wp2
                  go_loopw [16] (fun i wr => ∃ k : Nat, k ≤ ls.length + 1 ∧ i = .int .i64 k ∧ Below w6.heap.size w6 wr) (fun i _ => ls.length + 1 - (intOf i).toNat)
                  case atStart => exact ⟨0, Nat.zero_le _, rfl, Below.refl _ _⟩
                  case round =>
                    obtain ⟨k, hk, rfl, hbr⟩ := hrel
                    clear s0' sN'
                    have hsz6 := hb16.size
                    by_cases hlt : k < ls.length + 1
                    · have hkp : k < ps.length := by rw [HPL.out]; exact hlt
                      obtain ⟨bb, boff, pa, pc, hba, hbc, hbyt⟩ := hblkA.at hkp
                      subst hba
                      have g1 := cell_keep hbr hbc
                      have hbytr := hbyt.keep hbr
                      have t0 := cell_keep hbr (HST.out k (by omega))
                      have t1 := cell_keep hbr (HST.out (k + 1) (by omega))
                      have hpiece := (byt_piece hbT6 HPN.out.2.1 hkp).keep hbr
                      have hpos := HPN.out.2.2 k hkp
                      have hle := pre_mono ps (k + 1) ps.length (by omega) (Nat.le_refl _)
                      rw [HPN.out.1] at hle
                      rw [pre_succ ps k hkp] at t1 hle
                      have HE := HEL.out k hkp
                      clear hbc hbyt hblkA HEL kA2 kA3
                      generalize ps.getD k [] = l at g1 hbytr t1 hpiece hpos hle HE
                      generalize pre ps k = x at t0 t1 hpiece hle
                      have HL6 : Hid (LL w6 LA ps en rA) := hLA
                      clear hLA
                      have hd1 : decide (((x + l.length : Nat) : Int) < (x : Int)) = false := decide_eq_false (by omega)
                      rcases HE with ⟨hkl, he⟩ | ⟨hkl, he⟩
                      · obtain ⟨fb, foff, fa, fc, hfa, hfc, hfbyt⟩ := h06.at hkl
                        subst hfa
                        rw [← he] at hfc hfbyt
                        have f1 := cell_keep hbr hfc
                        have hfr := hfbyt.keep hbr
                        have HEE : Hid (l = ls.getD k []) := he
                        clear hfc hfbyt he h06
                        go_wp2_with fail
                        refine (same13 pa fa pc fc l wr (by omega) hbytr hfr).mono ?_
                        rintro e w7 ⟨rfl, q, hw⟩
                        have hb7 : Below wr.heap.size wr w7 := by rw [hw]; exact below_drewN wr q
                        have t07 := cell_keep hb7 t0
                        have t17 := cell_keep hb7 t1
                        have hp7 := hpiece.keep hb7
                        have hf7 := hfr.keep hb7
                        have hbr7 : Below w6.heap.size w6 w7 := hbr.trans (hb7.mono hbr.size)
                        clear hw hb7 t0 t1 hpiece hfr hbr hbytr g1 f1
                        go_wp2_with fail
                        refine (same13 (some ⟨tg, x, none⟩) fa (tc - x) fc l w7 (by omega) hp7 hf7).mono ?_
                        rintro e w8 ⟨rfl, q2, hw⟩
                        have hb8 : Below w7.heap.size w7 w8 := by rw [hw]; exact below_drewN w7 q2
                        have HB8 : Hid (Below w6.heap.size w6 w8) := hbr7.trans (hb8.mono hbr7.size)
                        clear hw hb8 t07 t17 hp7 hf7 hbr7
                        go_wp2
                        go_roundw
                        case rel => exact ⟨k + 1, by omega, by go_num, HB8.out⟩
                        case measure => simp [intOf]; omega
                      · have hkn : ¬ (k : Int) < (ls.length : Int) := by omega
                        have HKL : Hid (k = ls.length) := hkl
                        clear hkl
                        subst he
                        have hfr := (h16.keep hbr)
                        go_wp2_with fail
                        refine (same13 pa a1 pc c1 l wr (by omega) hbytr hfr).mono ?_
                        rintro e w7 ⟨rfl, q, hw⟩
                        have hb7 : Below wr.heap.size wr w7 := by rw [hw]; exact below_drewN wr q
                        have t07 := cell_keep hb7 t0
                        have t17 := cell_keep hb7 t1
                        have hp7 := hpiece.keep hb7
                        have hf7 := hfr.keep hb7
                        have hbr7 : Below w6.heap.size w6 w7 := hbr.trans (hb7.mono hbr.size)
                        clear hw hb7 t0 t1 hpiece hfr hbr hbytr g1
                        go_wp2_with fail
                        refine (same13 (some ⟨tg, x, none⟩) a1 (tc - x) c1 l w7 (by omega) hp7 hf7).mono ?_
                        rintro e w8 ⟨rfl, q2, hw⟩
                        have hb8 : Below w7.heap.size w7 w8 := by rw [hw]; exact below_drewN w7 q2
                        have HB8 : Hid (Below w6.heap.size w6 w8) := hbr7.trans (hb8.mono hbr7.size)
                        clear hw hb8 t07 t17 hp7 hf7 hbr7
                        go_wp2
                        go_roundw
                        case rel => exact ⟨k + 1, by omega, by go_num, HB8.out⟩
                        case measure => simp [intOf]; omega
                    · have hkM : k = ls.length + 1 := by omega
                      subst hkM
                      have k2r := cell_keep hbr kA2
                      have k3r := cell_keep hbr kA3
                      have hbTr := hbT6.keep hbr
                      have HBR : Hid (Below w.heap.size w wr) := hb16.trans (hbr.mono hb16.size)
                      clear hbr hblkA hLA kA2 kA3 h06 h16
                      go_wp2_with fail
                      refine (get14 LA wr _ k2r).mono ?_
                      rintro e w' ⟨rfl, hw⟩
                      rw [hw]
                      clear hw
                      go_wp2_with fail
                      refine (get15 LA wr _ k3r).mono ?_
                      rintro e w' ⟨rfl, hw⟩
                      rw [hw]
                      clear hw
                      go_wp2_with fail
                      refine (line16 tg tc T wr (by omega) hbTr).mono ?_
                      rintro e w' ⟨rfl, hw⟩
                      rw [hw, HEN.out]
                      clear hw k2r k3r hbTr
                      go_wp2
                      go_ret
                      exact ⟨rfl, HBR.out⟩
                · have hel : ∀ k, k < (pcs ls lb).length → (k < ls.length ∧ (pcs ls lb).getD k [] = ls.getD k []) ∨ (k = ls.length ∧ (pcs ls lb).getD k [] = lb) := by
                    intro k hk
                    rw [pcs_zero hlb] at hk ⊢
                    exact .inl ⟨hk, rfl⟩
                  have hpl : (pcs ls lb).length = ls.length := by rw [pcs_zero hlb]
                  have HEL : Hid (∀ k, k < (pcs ls lb).length → (k < ls.length ∧ (pcs ls lb).getD k [] = ls.getD k []) ∨ (k = ls.length ∧ (pcs ls lb).getD k [] = lb)) := hel
                  clear hel
                  generalize pcs ls lb = ps at hLA HPN hpl HEL
                  obtain ⟨aA, cA, sA, csA, kA0, kA1, kA2, kA3, kA4, hblkA, hsL, hst, _, _⟩ := hLA.cells
                  have s0 := hst 0 (Nat.zero_le _)
                  have sN := hst ps.length (Nat.le_refl _)
                  rw [pre_zero] at s0
                  rw [HPN.out.1] at sN kA2
                  rw [hpl] at sN kA0 kA1
                  have HPL : Hid (ps.length = ls.length) := hpl
                  have HST : Hid (∀ j, j ≤ ps.length → w6.cell? ⟨sA, j, none⟩ = some (.int .i64 (pre ps j : Nat))) := hst
                  clear hpl hst kA4
                  go_wp2_with fail
                  refine (get11 LA _ w6 aA (ls.length) cA rfl kA0).mono ?_
                  rintro e w' ⟨rfl, hw⟩
                  rw [hw]
                  clear hw kA0
                  go_wp2_with fail
                  refine (get12 LA w6 _ _ csA kA1).mono ?_
                  rintro e w' ⟨rfl, hw⟩
                  rw [hw]
                  clear hw kA1
                  have sN' : w6.cell? ⟨sA, ls.length, none⟩ = some (.int .i64 (T.length : Nat)) := sN
                  have s0' : w6.cell? ⟨sA, 0, none⟩ = some (.int .i64 0) := s0
                  clear sN s0
                  go_wp2
                  go_loopw [16] (fun i wr => ∃ k : Nat, k ≤ ls.length ∧ i = .int .i64 k ∧ Below w6.heap.size w6 wr) (fun i _ => ls.length - (intOf i).toNat)
                  case atStart => exact ⟨0, Nat.zero_le _, rfl, Below.refl _ _⟩
                  case round =>
                    obtain ⟨k, hk, rfl, hbr⟩ := hrel
                    clear s0' sN'
                    have hsz6 := hb16.size
                    by_cases hlt : k < ls.length
                    · have hkp : k < ps.length := by rw [HPL.out]; exact hlt
                      obtain ⟨bb, boff, pa, pc, hba, hbc, hbyt⟩ := hblkA.at hkp
                      subst hba
                      have g1 := cell_keep hbr hbc
                      have hbytr := hbyt.keep hbr
                      have t0 := cell_keep hbr (HST.out k (by omega))
                      have t1 := cell_keep hbr (HST.out (k + 1) (by omega))
                      have hpiece := (byt_piece hbT6 HPN.out.2.1 hkp).keep hbr
                      have hpos := HPN.out.2.2 k hkp
                      have hle := pre_mono ps (k + 1) ps.length (by omega) (Nat.le_refl _)
                      rw [HPN.out.1] at hle
                      rw [pre_succ ps k hkp] at t1 hle
                      have HE := HEL.out k hkp
                      clear hbc hbyt hblkA HEL kA2 kA3
                      generalize ps.getD k [] = l at g1 hbytr t1 hpiece hpos hle HE
                      generalize pre ps k = x at t0 t1 hpiece hle
                      have HL6 : Hid (LL w6 LA ps en rA) := hLA
                      clear hLA
                      have hd1 : decide (((x + l.length : Nat) : Int) < (x : Int)) = false := decide_eq_false (by omega)
                      rcases HE with ⟨hkl, he⟩ | ⟨hkl, he⟩
                      · obtain ⟨fb, foff, fa, fc, hfa, hfc, hfbyt⟩ := h06.at hkl
                        subst hfa
                        rw [← he] at hfc hfbyt
                        have f1 := cell_keep hbr hfc
                        have hfr := hfbyt.keep hbr
                        have HEE : Hid (l = ls.getD k []) := he
                        clear hfc hfbyt he h06
                        go_wp2_with fail
                        refine (same13 pa fa pc fc l wr (by omega) hbytr hfr).mono ?_
                        rintro e w7 ⟨rfl, q, hw⟩
                        have hb7 : Below wr.heap.size wr w7 := by rw [hw]; exact below_drewN wr q
                        have t07 := cell_keep hb7 t0
                        have t17 := cell_keep hb7 t1
                        have hp7 := hpiece.keep hb7
                        have hf7 := hfr.keep hb7
                        have hbr7 : Below w6.heap.size w6 w7 := hbr.trans (hb7.mono hbr.size)
                        clear hw hb7 t0 t1 hpiece hfr hbr hbytr g1 f1
                        go_wp2_with fail
                        refine (same13 (some ⟨tg, x, none⟩) fa (tc - x) fc l w7 (by omega) hp7 hf7).mono ?_
                        rintro e w8 ⟨rfl, q2, hw⟩
                        have hb8 : Below w7.heap.size w7 w8 := by rw [hw]; exact below_drewN w7 q2
                        have HB8 : Hid (Below w6.heap.size w6 w8) := hbr7.trans (hb8.mono hbr7.size)
                        clear hw hb8 t07 t17 hp7 hf7 hbr7
                        go_wp2
                        go_roundw
                        case rel => exact ⟨k + 1, by omega, by go_num, HB8.out⟩
                        case measure => simp [intOf]; omega
                      · exact absurd hkl (by omega)
                    · have hkM : k = ls.length := by omega
                      subst hkM
                      have k2r := cell_keep hbr kA2
                      have k3r := cell_keep hbr kA3
                      have hbTr := hbT6.keep hbr
                      have HBR : Hid (Below w.heap.size w wr) := hb16.trans (hbr.mono hb16.size)
                      clear hbr hblkA hLA kA2 kA3 h06 h16
                      go_wp2_with fail
                      refine (get14 LA wr _ k2r).mono ?_
                      rintro e w' ⟨rfl, hw⟩
                      rw [hw]
                      clear hw
                      go_wp2_with fail
                      refine (get15 LA wr _ k3r).mono ?_
                      rintro e w' ⟨rfl, hw⟩
                      rw [hw]
                      clear hw
                      go_wp2_with fail
                      refine (line16 tg tc T wr (by omega) hbTr).mono ?_
                      rintro e w' ⟨rfl, hw⟩
                      rw [hw, HEN.out]
                      clear hw k2r k3r hbTr
                      go_wp2
                      go_ret
                      exact ⟨rfl, HBR.out⟩
      · go_wp2
        go_ret
        exact ⟨rfl, Below.refl _ _⟩
    · go_wp2
      go_ret
      exact ⟨rfl, Below.refl _ _⟩
end Go.Proofs.Qxb6626330a
