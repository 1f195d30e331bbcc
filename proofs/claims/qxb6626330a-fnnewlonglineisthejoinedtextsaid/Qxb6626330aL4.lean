/-
  Seat b6626330a: the law FnNewLongLineSameForAnyRegrouping, walked.
-/
import Derived.Test.Qxb6626330aW10
namespace Go.Proofs.Qxb6626330a
open Go.RowKit

theorem or3 {a b c p : Prop} (h : a ∨ b ∨ c) (ha : a → p) (hb : b → p) (hc : c → p) : p := h.elim ha fun h => h.elim hb hc

/-- cloneBytes, the length under a name of its own. -/
theorem clone8n (a : Option Addr) (n c : Nat) (l : List Int) (w : World) (hl : l.length = n) (hn : l.length ≤ 1048577) (h0 : Byt w a l) :
    Calls Try.prog 8 #[.slice a n c] w fun e w' => (∃ a' c', e = .returned (.slice a' n c') ∧ Byt w' a' l) ∧ Below w.heap.size w w' := by
  subst hl
  refine (clone8 a c l w hn h0).mono ?_
  rintro e w' ⟨⟨a', c', rfl, hb, _⟩, h⟩
  exact ⟨⟨a', c', rfl, hb⟩, h⟩

set_option maxHeartbeats 2000000 in
set_option maxRecDepth 100000 in
theorem walk4 (a0 a1 : Option Addr) (c0 c1 : Nat) (ls : List (List Int)) (lb : List Int) (cut : Int) (w : World) (h0 : Blk w a0 ls) (h1 : Byt w a1 lb) :
    Calls Try.prog 4 #[.slice a0 ls.length c0, .slice a1 lb.length c1, .int .i64 cut] w fun e w' => e = .returned (.bool true) ∧ Below w.heap.size w w' := by
  go_enter Try.func4, Try.ntmps4
  go_wp2_with fail
  refine (zz17 a0 a1 c0 c1 lb.length ls cut w h0).mono ?_
  rintro e w1 ⟨⟨r, rfl⟩, hw⟩
  rw [hw]
  clear hw
  cases r with
  | false =>
    go_wp2
    go_ret
    exact ⟨rfl, Below.refl _ _⟩
  | true =>
    by_cases hN : ls.length ≤ 65536
    · by_cases hB : lb.length ≤ 1048576
      · go_wp2
        go_loop [7, 8] (fun z i => ∃ k s : Nat, k ≤ ls.length ∧ i = .int .i64 k ∧ z = .int .i64 s ∧ s ≤ 1048576 ∧ lb.length + pre ls k ≤ s) (fun _ i => ls.length - (intOf i).toNat)
        case atStart => exact ⟨0, lb.length, Nat.zero_le _, rfl, rfl, hB, by rw [pre_zero]; omega⟩
        case round =>
          obtain ⟨k, s, hk, rfl, rfl, hs, hps⟩ := hrel
          by_cases hlt : k < ls.length
          · obtain ⟨b, off, a', c', ha, hc, _⟩ := h0.at hlt
            have HS : Hid (pre ls (k + 1) = pre ls k + (ls.getD k []).length) := pre_succ ls k hlt
            subst ha
            generalize (ls.getD k []).length = m at hc HS
            by_cases hm : m ≤ 1048576
            · by_cases hsm : s + (8 + m) ≤ 1048576
              · go_wp2
                go_round
                case rel => exact ⟨k + 1, s + (8 + m), by omega, by go_num, by go_num, by omega, by rw [HS.out]; omega⟩
                case measure => simp [intOf]; omega
              · go_wp2
                go_ret
                exact ⟨rfl, Below.refl _ _⟩
            · go_wp2
              go_ret
              exact ⟨rfl, Below.refl _ _⟩
          · have hkl : k = ls.length := by omega
            subst hkl
            go_wp2
            go_loop [9] (fun i => ∃ k : Nat, k ≤ ls.length ∧ i = .int .i64 k ∧ ∀ j, j < k → 0 < (ls.getD j []).length) (fun i => ls.length - (intOf i).toNat)
            case atStart => exact ⟨0, Nat.zero_le _, rfl, fun j hj => absurd hj (Nat.not_lt_zero _)⟩
            case round =>
              obtain ⟨k, hk, rfl, hfk⟩ := hrel
              have HFK : Hid (∀ j, j < k → 0 < (ls.getD j []).length) := hfk
              clear hfk
              by_cases hlt : k < ls.length
              · obtain ⟨b, off, a', c', ha, hc, _⟩ := h0.at hlt
                subst ha
                obtain ⟨m, hm⟩ : ∃ m, (ls.getD k []).length = m := ⟨_, rfl⟩
                rw [hm] at hc
                have HM : Hid ((ls.getD k []).length = m) := hm
                clear hm
                by_cases hm0 : m = 0
                · have e1 : ((m : Int) == 0) = true := by simp; omega
                  go_wp2
                  go_ret
                  exact ⟨rfl, Below.refl _ _⟩
                · have e1 : ((m : Int) == 0) = false := beq_false_of_ne (by omega)
                  go_wp2
                  go_round
                  case rel =>
                    refine ⟨k + 1, by omega, by go_num, fun j hj => ?_⟩
                    by_cases hjk : j = k
                    · subst hjk; rw [HM.out]; omega
                    · exact HFK.out j (by omega)
                  case measure => simp [intOf]; omega
              · have hkl : k = ls.length := by omega
                subst hkl
                have HF : Hid (Full ls) := HFK.out
                clear HFK hk hlt
                go_wp2_with fail
                refine (join6 a0 a1 c0 c1 ls lb w (by omega) (by omega) h0 h1).mono ?_
                rintro e w2 ⟨⟨tg, tc, rfl, hbT, hTc, hTm⟩, hb2⟩
                have hTl := text_len ls lb
                obtain ⟨T, hT⟩ : ∃ T, text ls lb = T := ⟨_, rfl⟩
                rw [hT] at hbT hTc hTl ⊢
                have HT : Hid (text ls lb = T ∧ T.length = pre ls ls.length + lb.length) := ⟨hT, hTl⟩
                have hTb : T.length ≤ 1048576 := by omega
                have hl2 : lb.length ≤ T.length := by omega
                have h02 := h0.keep hb2
                have h12 := h1.keep hb2
                unfold maxLen at hTm
                clear hT hTl h0 h1 hps
                by_cases hc0 : cut < 0
                · have d0 : decide (cut < 0) = true := decide_eq_true hc0
                  go_wp2
                  go_ret
                  exact ⟨rfl, hb2⟩
                · have d0 : decide (cut < 0) = false := decide_eq_false hc0
                  by_cases hc1 : (T.length : Int) < cut
                  · go_wp2
                    go_ret
                    exact ⟨rfl, hb2⟩
                  · obtain ⟨c, hc⟩ : ∃ c : Nat, cut = (c : Int) := ⟨cut.toNat, by omega⟩
                    subst hc
                    have hcT : c ≤ T.length := by omega
                    go_wp2_with fail
                    refine (clone7 a0 c0 ls w2 (by omega) ?hl7 h02).mono ?_
                    case hl7 =>
                      intro i hi
                      have e1 := pre_succ ls i hi
                      have e2 := pre_mono ls (i + 1) ls.length (by omega) (Nat.le_refl _)
                      have e3 := HT.out.2
                      omega
                    rintro e w3 ⟨⟨af, cf, rfl, hbf⟩, hb3⟩
                    have h13 := h12.keep hb3
                    have hbT3 := hbT.keep hb3
                    have hb13 : Below w.heap.size w w3 := hb2.trans (hb3.mono hb2.size)
                    clear h12 hbT h02 hb2 hb3
                    go_wp2_with fail
                    refine (clone8n a1 lb.length c1 lb w3 rfl (by omega) h13).mono ?_
                    rintro e w4 ⟨⟨ab, cb, rfl, hbb⟩, hb4⟩
                    have hbT4 := hbT3.keep hb4
                    have hbf4 := hbf.keep hb4
                    have hb14 : Below w.heap.size w w4 := hb13.trans (hb4.mono hb13.size)
                    clear hbT3 hbf h13 hb13 hb4
                    go_wp2_with fail
                    refine (gath9 af ab ls.length cf lb.length cb _ w4).mono ?_
                    rintro e w5 ⟨rfl, hw5⟩
                    have hg : Gath w5 w4.heap.size ls lb := by rw [hw5]; exact Gath.mk ls lb af ab _ cf _ cb _ w4 rfl rfl hbf4 hbb
                    have hb5 : Below w4.heap.size w4 w5 := by rw [hw5]; exact (Below.refl _ _).alloc (Nat.le_refl _) _
                    have hbT5 := hbT4.keep hb5
                    have hb15 : Below w.heap.size w w5 := hb14.trans (hb5.mono hb14.size)
                    clear hw5 hbb hbf4 hbT4 hb14 hb5
                    go_wp2_with fail
                    refine (new10 w4.heap.size ls lb w5 (by omega) (by rw [HT.out.1]; omega) HF.out hg).mono ?_
                    rintro e w6 ⟨⟨LA, rA, rfl, hLA⟩, hb6⟩
                    rw [HT.out.1] at hLA
                    have hbT6 := hbT5.keep hb6
                    have hb16 : Below w.heap.size w w6 := hb15.trans (hb6.mono hb15.size)
                    clear hg hbT5 hb15 hb6
                    have hct : (0 < c ∧ c < tc) ∨ (0 < c ∧ ¬ c < tc) ∨ (¬ 0 < c) := by omega
                    refine or3 hct (fun hct => ?cA) (fun hct => ?cB) (fun hcp => ?cC)
                    case' cA =>
                      obtain ⟨hcp, hct⟩ := hct
                      go_wp2_with fail
                      refine (clone8n (some ⟨tg, 0, none⟩) c tc (T.take c) w6 (by simp; omega) (by simp; omega) (byt_take hbT6 c)).mono ?_
                      rintro e w7 ⟨⟨ax, cx, rfl, hbx⟩, hb7⟩
                      have hLA7 := hLA.keep hb7
                      have hbT7 := hbT6.keep hb7
                      have hb17 : Below w.heap.size w w7 := hb16.trans (hb7.mono hb16.size)
                      have HBK : Hid (∀ n c', (T.take c).length = n → Blk (w7.alloc (.cells #[.slice ax n c'] 23)) (some ⟨w7.heap.size, 0, none⟩) [T.take c]) := fun n c' h => blk_one hbx h
                      clear hLA hbT6 hb16 hb7 hbx
                      go_wp2_with fail
                      have ha7 : Below w7.heap.size w7 (w7.alloc (.cells #[.slice ax c cx] 23)) := (Below.refl _ _).alloc (Nat.le_refl _) _
                      refine (clone8n (some ⟨tg, c, none⟩) (T.length - c) (tc - c) (T.drop c) (w7.alloc (.cells #[.slice ax c cx] 23)) (by simp) (by simp; omega) ?hbd).mono ?_
                      case hbd => exact (by simpa using byt_drop hbT7 c : Byt w7 (some ⟨tg, c, none⟩) (T.drop c)).keep ha7
                      rintro e w8 ⟨⟨ay, cy, rfl, hby⟩, hb8⟩
                      have hBK := (HBK.out c cx (by simp; omega)).keep hb8
                      have hLA8 := (hLA7.keep ha7).keep hb8
                      have hbT8 := (hbT7.keep ha7).keep hb8
                      have hb18 : Below w.heap.size w w8 := (hb17.trans (ha7.mono hb17.size)).trans (hb8.mono (by have := hb17.size; simp; omega))
                      clear hLA7 hbT7 hb17 ha7 hb8 HBK
                      go_wp2_with fail
                      refine (gath9 (some ⟨w7.heap.size, 0, none⟩) ay 1 1 (T.length - c) cy _ w8).mono ?_
                      rintro e w9 ⟨rfl, hw9⟩
                      have hg : Gath w9 w8.heap.size [T.take c] (T.drop c) := by rw [hw9]; exact Gath.mk [T.take c] (T.drop c) _ ay _ 1 _ cy _ w8 rfl (by simp) hBK hby
                      have hb9 : Below w8.heap.size w8 w9 := by rw [hw9]; exact (Below.refl _ _).alloc (Nat.le_refl _) _
                      have hLA9 := hLA8.keep hb9
                      have hbT9 := hbT8.keep hb9
                      have hb19 : Below w.heap.size w w9 := hb18.trans (hb9.mono hb18.size)
                      clear hw9 hBK hby hLA8 hbT8 hb18 hb9
                      go_wp2_with fail
                      refine (new10 w8.heap.size [T.take c] (T.drop c) w9 (by simp) (by rw [text_one]; omega) (full_one hcp hcT) hg).mono ?_
                      rw [text_one]
                      have HP := pcs_facts (text_one T c)
                      have hq2 : (pcs [T.take c] (T.drop c)).length ≤ 2 := HP.2.2
                      generalize pcs [T.take c] (T.drop c) = ps at HP hq2 ⊢
                    case' cB =>
                      obtain ⟨hcp, hct⟩ := hct
                      go_wp2_with fail
                      refine (clone8n (some ⟨tg, 0, none⟩) c tc (T.take c) w6 (by simp; omega) (by simp; omega) (byt_take hbT6 c)).mono ?_
                      rintro e w7 ⟨⟨ax, cx, rfl, hbx⟩, hb7⟩
                      have hLA7 := hLA.keep hb7
                      have hbT7 := hbT6.keep hb7
                      have hb17 : Below w.heap.size w w7 := hb16.trans (hb7.mono hb16.size)
                      have HBK : Hid (∀ n c', (T.take c).length = n → Blk (w7.alloc (.cells #[.slice ax n c'] 23)) (some ⟨w7.heap.size, 0, none⟩) [T.take c]) := fun n c' h => blk_one hbx h
                      clear hLA hbT6 hb16 hb7 hbx
                      go_wp2_with fail
                      have ha7 : Below w7.heap.size w7 (w7.alloc (.cells #[.slice ax c cx] 23)) := (Below.refl _ _).alloc (Nat.le_refl _) _
                      refine (clone8n (some ⟨tg, 0, none⟩) (T.length - c) (tc - c) (T.drop c) (w7.alloc (.cells #[.slice ax c cx] 23)) (by simp) (by simp; omega) ?hbd).mono ?_
                      case hbd => exact .inl (List.drop_eq_nil_of_le (by omega))
                      rintro e w8 ⟨⟨ay, cy, rfl, hby⟩, hb8⟩
                      have hBK := (HBK.out c cx (by simp; omega)).keep hb8
                      have hLA8 := (hLA7.keep ha7).keep hb8
                      have hbT8 := (hbT7.keep ha7).keep hb8
                      have hb18 : Below w.heap.size w w8 := (hb17.trans (ha7.mono hb17.size)).trans (hb8.mono (by have := hb17.size; simp; omega))
                      clear hLA7 hbT7 hb17 ha7 hb8 HBK
                      go_wp2_with fail
                      refine (gath9 (some ⟨w7.heap.size, 0, none⟩) ay 1 1 (T.length - c) cy _ w8).mono ?_
                      rintro e w9 ⟨rfl, hw9⟩
                      have hg : Gath w9 w8.heap.size [T.take c] (T.drop c) := by rw [hw9]; exact Gath.mk [T.take c] (T.drop c) _ ay _ 1 _ cy _ w8 rfl (by simp) hBK hby
                      have hb9 : Below w8.heap.size w8 w9 := by rw [hw9]; exact (Below.refl _ _).alloc (Nat.le_refl _) _
                      have hLA9 := hLA8.keep hb9
                      have hbT9 := hbT8.keep hb9
                      have hb19 : Below w.heap.size w w9 := hb18.trans (hb9.mono hb18.size)
                      clear hw9 hBK hby hLA8 hbT8 hb18 hb9
                      go_wp2_with fail
                      refine (new10 w8.heap.size [T.take c] (T.drop c) w9 (by simp) (by rw [text_one]; omega) (full_one hcp hcT) hg).mono ?_
                      rw [text_one]
                      have HP := pcs_facts (text_one T c)
                      have hq2 : (pcs [T.take c] (T.drop c)).length ≤ 2 := HP.2.2
                      generalize pcs [T.take c] (T.drop c) = ps at HP hq2 ⊢
                    case' cC =>
                      have hc0' : c = 0 := by omega
                      subst hc0'
                      go_wp2_with fail
                      refine (clone8n (some ⟨tg, 0, none⟩) T.length tc T w6 rfl (by omega) hbT6).mono ?_
                      rintro e w8 ⟨⟨ay, cy, rfl, hby⟩, hb8⟩
                      have hLA8 := hLA.keep hb8
                      have hbT8 := hbT6.keep hb8
                      have hb18 : Below w.heap.size w w8 := hb16.trans (hb8.mono hb16.size)
                      clear hLA hbT6 hb16 hb8
                      go_wp2_with fail
                      refine (gath9 none ay 0 0 T.length cy _ w8).mono ?_
                      rintro e w9 ⟨rfl, hw9⟩
                      have hg : Gath w9 w8.heap.size [] T := by rw [hw9]; exact Gath.mk [] T _ ay _ 0 _ cy _ w8 rfl rfl (.nil _ _) hby
                      have hb9 : Below w8.heap.size w8 w9 := by rw [hw9]; exact (Below.refl _ _).alloc (Nat.le_refl _) _
                      have hLA9 := hLA8.keep hb9
                      have hbT9 := hbT8.keep hb9
                      have hb19 : Below w.heap.size w w9 := hb18.trans (hb9.mono hb18.size)
                      clear hw9 hby hLA8 hbT8 hb18 hb9
                      go_wp2_with fail
                      refine (new10 w8.heap.size [] T w9 (by simp) (by rw [text_none]; omega) full_none hg).mono ?_
                      rw [text_none]
                      have HP := pcs_facts (text_none T)
                      have hq2 : (pcs [] T).length ≤ 2 := by have := HP.2.2; simp at this; omega
                      generalize pcs [] T = ps at HP hq2 ⊢
                    all_goals
                      rintro e w10 ⟨⟨LB, rB, rfl, hLB⟩, hb10⟩
                      have hLA10 := hLA9.keep hb10
                      have hbT10 := hbT9.keep hb10
                      have hb110 : Below w.heap.size w w10 := hb19.trans (hb10.mono hb19.size)
                      clear hLA9 hbT9 hb19 hb10 hg
                      have HB : Hid (text ps [] = T ∧ pre ps ps.length = T.length) := ⟨HP.1, HP.2.1⟩
                      have HPA := pcs_facts HT.out.1
                      have HA0 : (pcs ls lb).length ≤ ls.length + 1 := HPA.2.2
                      have HA : Hid (text (pcs ls lb) [] = T ∧ pre (pcs ls lb) (pcs ls lb).length = T.length) := ⟨HPA.1, HPA.2.1⟩
                      clear HP HPA
                      generalize pcs ls lb = pa at hLA10 HA HA0
                      have hen := endOf_bounds T
                      generalize endOf T = en at hLA10 hLB hen
                      obtain ⟨he1, he2⟩ := hen
                      obtain ⟨aA, cA, sA, csA, kA0, _, _, _, _, hblkA, _, _, _, _⟩ := hLA10.cells
                      go_wp2_with fail
                      refine (get11 LA _ w10 aA pa.length cA rfl kA0).mono ?_
                      rintro e w' ⟨rfl, hw⟩
                      rw [hw]
                      clear hw kA0
                      go_wp2_with fail
                      refine (join6 aA none cA 0 pa [] w10 (by omega) (by rw [HA.out.2]; simp; omega) hblkA (.nil _ _)).mono ?_
                      rintro e w11 ⟨⟨jg, jc, rfl, hbJ, _, _⟩, hb11⟩
                      rw [HA.out.1] at hbJ ⊢
                      have hLA11 := hLA10.keep hb11
                      have hLB11 := hLB.keep hb11
                      have hbT11 := hbT10.keep hb11
                      have hb111 : Below w.heap.size w w11 := hb110.trans (hb11.mono hb110.size)
                      clear hLA10 hLB hbT10 hb110 hb11 hblkA
                      obtain ⟨aB, cB, sB, csB, kB0, _, _, _, _, hblkB, _, _, _, _⟩ := hLB11.cells
                      go_wp2_with fail
                      refine (get11 LB _ w11 aB ps.length cB rfl kB0).mono ?_
                      rintro e w' ⟨rfl, hw⟩
                      rw [hw]
                      clear hw kB0
                      go_wp2_with fail
                      refine (join6 aB none cB 0 ps [] w11 (by omega) (by rw [HB.out.2]; simp; omega) hblkB (.nil _ _)).mono ?_
                      rintro e w12 ⟨⟨kg, kc, rfl, hbK, _, _⟩, hb12⟩
                      rw [HB.out.1] at hbK ⊢
                      have hLA12 := hLA11.keep hb12
                      have hLB12 := hLB11.keep hb12
                      have hbT12 := hbT11.keep hb12
                      have hbJ12 := hbJ.keep hb12
                      have hb112 : Below w.heap.size w w12 := hb111.trans (hb12.mono hb111.size)
                      clear hLA11 hLB11 hbT11 hb111 hb12 hblkB hbJ
                      obtain ⟨_, _, _, _, _, _, kA2, kA3, _, _, _, _, _, _⟩ := hLA12.cells
                      obtain ⟨_, _, _, _, _, _, kB2, kB3, _, _, _, _, _, _⟩ := hLB12.cells
                      rw [HA.out.2] at kA2
                      rw [HB.out.2] at kB2
                      clear hLA12 hLB12
                      go_wp2_with fail
                      refine (get14 LA w12 _ kA2).mono ?_
                      rintro e w' ⟨rfl, hw⟩
                      rw [hw]
                      clear hw
                      go_wp2_with fail
                      refine (get14 LB w12 _ kB2).mono ?_
                      rintro e w' ⟨rfl, hw⟩
                      rw [hw]
                      clear hw
                      go_wp2_with fail
                      refine (get15 LA w12 _ kA3).mono ?_
                      rintro e w' ⟨rfl, hw⟩
                      rw [hw]
                      clear hw
                      go_wp2_with fail
                      refine (get15 LB w12 _ kB3).mono ?_
                      rintro e w' ⟨rfl, hw⟩
                      rw [hw]
                      clear hw kA2 kA3 kB2 kB3
                      go_wp2_with fail
                      refine (same13 (some ⟨jg, 0, none⟩) (some ⟨tg, 0, none⟩) jc tc T w12 (by omega) hbJ12 hbT12).mono ?_
                      rintro e w13 ⟨rfl, q, hw⟩
                      have hb13 : Below w12.heap.size w12 w13 := by rw [hw]; exact below_drewN w12 q
                      have hbT13 := hbT12.keep hb13
                      have hbK13 := hbK.keep hb13
                      have hb113 : Below w.heap.size w w13 := hb112.trans (hb13.mono hb112.size)
                      clear hw hb13 hbT12 hbK hbJ12 hb112
                      go_wp2_with fail
                      refine (same13 (some ⟨kg, 0, none⟩) (some ⟨tg, 0, none⟩) kc tc T w13 (by omega) hbK13 hbT13).mono ?_
                      rintro e w14 ⟨rfl, q2, hw⟩
                      have hb14 : Below w13.heap.size w13 w14 := by rw [hw]; exact below_drewN w13 q2
                      have HBF : Hid (Below w.heap.size w w14) := hb113.trans (hb14.mono hb113.size)
                      have d9 : decide ((T.length : Int) ≤ (en : Int) + 2) = true := decide_eq_true (by omega)
                      clear hw hb14 hbT13 hbK13 hb113
                      go_wp2
                      go_ret
                      exact ⟨rfl, HBF.out⟩
      · go_wp2
        go_ret
        exact ⟨rfl, Below.refl _ _⟩
    · go_wp2
      go_ret
      exact ⟨rfl, Below.refl _ _⟩
end Go.Proofs.Qxb6626330a
