/-
  Seat b6626330a: newLongLine.
-/
import Derived.Test.Qxb6626330aW8
import Derived.RegionTactic
namespace Go.Proofs.Qxb6626330a
open Go.RowKit

/-- The starts, filled as far as k. -/
def stUpto (ps : List (List Int)) (k j : Nat) : Value := if j < k then .int .i64 (pre ps j : Nat) else .int .i64 0

theorem stUpto_step (ps : List (List Int)) (k j : Nat) : (if j = k then Value.int .i64 (pre ps k : Nat) else stUpto ps k j) = stUpto ps (k + 1) j := by
  unfold stUpto
  by_cases h : j = k
  · subst h; simp
  · rw [if_neg h]
    by_cases h2 : j < k
    · rw [if_pos h2, if_pos (by omega)]
    · rw [if_neg h2, if_neg (by omega)]

/-- A longLine whose starts are being filled: k of them stand, and n counts k blocks. -/
def Mid (w : World) (L S : Nat) (ab : Option Addr) (cb : Nat) (ps : List (List Int)) (k : Nat) : Prop :=
  (∃ F : Nat → Value, w.rowIs L 42 5 F ∧ F 0 = .slice ab ps.length cb ∧ F 1 = .slice (some ⟨S, 0, none⟩) (ps.length + 1) (ps.length + 1) ∧ F 2 = .int .i64 (pre ps k : Nat) ∧ F 3 = .int .i64 0 ∧ F 4 = .int .i64 0) ∧
    w.rowIs S 3 (ps.length + 1) (stUpto ps k) ∧ Blk w ab ps ∧ S ≠ L

theorem Mid.cells {w : World} {L S : Nat} {ab : Option Addr} {cb : Nat} {ps : List (List Int)} {k : Nat} (h : Mid w L S ab cb ps k) :
    w.cell? ⟨L, 0, none⟩ = some (.slice ab ps.length cb) ∧ w.cell? ⟨L, 1, none⟩ = some (.slice (some ⟨S, 0, none⟩) (ps.length + 1) (ps.length + 1)) ∧ w.cell? ⟨L, 2, none⟩ = some (.int .i64 (pre ps k : Nat)) ∧
    w.cell? ⟨L, 3, none⟩ = some (.int .i64 0) ∧ w.cell? ⟨L, 4, none⟩ = some (.int .i64 0) ∧ (∀ j, w.frozen? ⟨L, j, none⟩ = false) ∧ (∀ j, w.frozen? ⟨S, j, none⟩ = false) ∧ (∀ j, j ≤ ps.length → ∃ z, w.cell? ⟨S, j, none⟩ = some (.int .i64 z)) := by
  obtain ⟨⟨F, hr, h0, h1, h2, h3, h4⟩, hs, hb, hSL⟩ := h
  refine ⟨by rw [hr.cell (by omega), h0], by rw [hr.cell (by omega), h1], by rw [hr.cell (by omega), h2], by rw [hr.cell (by omega), h3], by rw [hr.cell (by omega), h4], hr.frozen, hs.frozen, fun j hj => ?_⟩
  rw [hs.cell (by omega)]
  unfold stUpto
  split <;> exact ⟨_, rfl⟩

theorem Mid.step {w : World} {L S : Nat} {ab : Option Addr} {cb : Nat} {ps : List (List Int)} {k : Nat} (h : Mid w L S ab cb ps k) (hk : k < ps.length) :
    Mid ((w.setCell ⟨S, k, none⟩ (.int .i64 (pre ps k : Nat))).setCell ⟨L, 2, none⟩ (.int .i64 (pre ps (k + 1) : Nat))) L S ab cb ps (k + 1) := by
  obtain ⟨c0, c1, c2, c3, c4, _, _, cS⟩ := h.cells
  obtain ⟨⟨F, hr, h0, h1, h2, h3, h4⟩, hs, hb, hSL⟩ := h
  obtain ⟨z, hz⟩ := cS k (by omega)
  have hr1 := hr.setOther (a := ⟨S, k, none⟩) (fun e => hSL e.symm) (.int .i64 (pre ps k : Nat))
  refine ⟨⟨_, hr1.set 2 _, by simpa using h0, by simpa using h1, by simp, by simpa using h3, by simpa using h4⟩, ((hs.set k _).congr (fun j _ => stUpto_step ps k j)).setOther (fun e => hSL e) _, (hb.setI64 hz _).setI64 (z := (pre ps k : Nat)) ?_ _, hSL⟩
  rw [hr1.cell (by omega), h2]

/-- The last start is laid, and the end: a longLine. -/
theorem Mid.done {w : World} {L S : Nat} {ab : Option Addr} {cb : Nat} {ps : List (List Int)} (h : Mid w L S ab cb ps ps.length) :
    LL ((w.setCell ⟨S, ps.length, none⟩ (.int .i64 (pre ps ps.length : Nat))).setCell ⟨L, 3, none⟩ (.int .i64 (pre ps ps.length : Nat))) L ps (pre ps ps.length) 0 := by
  obtain ⟨c0, c1, c2, c3, c4, _, _, cS⟩ := h.cells
  obtain ⟨⟨F, hr, h0, h1, h2, h3, h4⟩, hs, hb, hSL⟩ := h
  obtain ⟨z, hz⟩ := cS ps.length (Nat.le_refl _)
  have hr1 := hr.setOther (a := ⟨S, ps.length, none⟩) (fun e => hSL e.symm) (.int .i64 (pre ps ps.length : Nat))
  have hs1 := ((hs.set ps.length (.int .i64 (pre ps ps.length : Nat))).congr (fun j _ => stUpto_step ps ps.length j)).setOther (a := ⟨L, 3, none⟩) (fun e => hSL e) (.int .i64 (pre ps ps.length : Nat))
  refine ⟨_, ab, cb, S, ps.length + 1, hr1.set 3 _, by simpa using h0, by simpa using h1, by simpa using h2, by simp, by simpa using h4, (hb.setI64 hz _).setI64 (z := 0) ?_ _, hSL, fun j hj => ?_⟩
  · rw [hr1.cell (by omega), h3]
  · rw [hs1.cell (by omega)]
    unfold stUpto
    rw [if_pos (by omega)]

/-- The length of a text without a final CRLF, or else without a final LF. -/
def endOf (t : List Int) : Nat := if 0 < t.length ∧ t.getD (t.length - 1) 0 = 10 then (if 0 < t.length - 1 ∧ t.getD (t.length - 2) 0 = 13 then t.length - 2 else t.length - 1) else t.length

theorem full_pcs {ls : List (List Int)} {lb : List Int} (h : Full ls) : Full (pcs ls lb) := by
  unfold pcs
  split
  · exact h
  · rename_i hl
    intro k hk
    simp at hk
    by_cases h2 : k < ls.length
    · rw [show (ls ++ [lb]).getD k [] = ls.getD k [] by simp [List.getD, List.getElem?_append_left h2]]
      exact h k h2
    · have : k = ls.length := by omega
      subst this
      rw [show (ls ++ [lb]).getD ls.length [] = lb by simp [List.getD]]
      omega

theorem flat_pcs (ls : List (List Int)) (lb : List Int) : (pcs ls lb).flatten = text ls lb := by
  unfold pcs text
  split
  · rename_i hl
    rw [List.eq_nil_of_length_eq_zero hl, List.append_nil]
  · simp

theorem pre_pcs (ls : List (List Int)) (lb : List Int) : pre (pcs ls lb) (pcs ls lb).length = (text ls lb).length := by rw [pre_all, flat_pcs]
theorem pcs_le (ls : List (List Int)) (lb : List Int) : (pcs ls lb).length ≤ ls.length + 1 := by
  unfold pcs
  split
  · omega
  · simp

theorem LL.setEnd' {w : World} {L : Nat} {ps : List (List Int)} {en rd : Nat} (h : LL w L ps en rd) (z : Int) (k : Nat) (hz : z = (k : Int)) : LL (w.setCell ⟨L, 3, none⟩ (.int .i64 z)) L ps k rd := by
  subst hz
  exact h.setEnd k

theorem LL.drew {w : World} {L : Nat} {ps : List (List Int)} {en rd : Nat} (h : LL w L ps en rd) : LL w.drew L ps en rd := h.drewN 1

/-- What newLongLine leaves: a pointer to a longLine; old memory as it was. -/
def Made (w : World) (ps : List (List Int)) (en : Nat) (e : Ending) (w' : World) : Prop := (∃ L rd, e = .returned (.pointer (some ⟨L, 0, none⟩)) ∧ LL w' L ps en rd) ∧ Below w.heap.size w w'
theorem made_mk {w w' : World} {ps : List (List Int)} {en : Nat} (L rd : Nat) (h : LL w' L ps en rd) (hb : Below w.heap.size w w') : Made w ps en (.returned (.pointer (some ⟨L, 0, none⟩))) w' := ⟨⟨L, rd, rfl, h⟩, hb⟩

theorem endOf_no {T : List Int} (h : ¬ 0 < T.length) : endOf T = T.length := by unfold endOf; rw [if_neg (fun e => h e.1)]
theorem endOf_nl {T : List Int} (h : T.getD (T.length - 1) 0 ≠ 10) : endOf T = T.length := by unfold endOf; rw [if_neg (fun e => h e.2)]
theorem endOf_lf {T : List Int} (h0 : 0 < T.length) (h1 : T.getD (T.length - 1) 0 = 10) (h : ¬ (0 < T.length - 1 ∧ T.getD (T.length - 2) 0 = 13)) : endOf T = T.length - 1 := by unfold endOf; rw [if_pos ⟨h0, h1⟩, if_neg h]
theorem endOf_crlf {T : List Int} (h0 : 0 < T.length) (h1 : T.getD (T.length - 1) 0 = 10) (h2 : 0 < T.length - 1) (h3 : T.getD (T.length - 2) 0 = 13) : endOf T = T.length - 2 := by unfold endOf; rw [if_pos ⟨h0, h1⟩, if_pos ⟨h2, h3⟩]

theorem mid_start {w : World} {ab : Option Addr} {cb : Nat} {ps : List (List Int)} (hb : Blk w ab ps) :
    Mid ((w.alloc (.cells #[.slice ab ps.length cb, .slice (some ⟨w.heap.size + 1, 0, none⟩) (ps.length + 1) (ps.length + 1), .int .i64 0, .int .i64 0, .int .i64 0] 42)).alloc (.cells (madeCells #[.int .i64 0] (ps.length + 1)) 3)) w.heap.size (w.heap.size + 1) ab cb ps 0 := by
  refine ⟨⟨fun j => (#[Value.slice ab ps.length cb, .slice (some ⟨w.heap.size + 1, 0, none⟩) (ps.length + 1) (ps.length + 1), .int .i64 0, .int .i64 0, .int .i64 0] : Array Value).getD j (.bool false), (World.rowIs_alloc w _ 42 _ (fun j hj => ?_)).alloc _, rfl, rfl, rfl, rfl, rfl⟩, ?_, ?_, by omega⟩
  · match j, hj with
    | 0, _ => rfl
    | 1, _ => rfl
    | 2, _ => rfl
    | 3, _ => rfl
    | 4, _ => rfl
  · have := World.rowIs_made (w.alloc (.cells #[.slice ab ps.length cb, .slice (some ⟨w.heap.size + 1, 0, none⟩) (ps.length + 1) (ps.length + 1), .int .i64 0, .int .i64 0, .int .i64 0] 42)) (.int .i64 0) (ps.length + 1) 3
    have hsz : (w.alloc (.cells #[.slice ab ps.length cb, .slice (some ⟨w.heap.size + 1, 0, none⟩) (ps.length + 1) (ps.length + 1), .int .i64 0, .int .i64 0, .int .i64 0] 42)).heap.size = w.heap.size + 1 := by simp
    rw [hsz] at this
    exact this.congr (fun j _ => by simp [stUpto])
  · exact hb.keep (((Below.refl _ w).alloc (Nat.le_refl _) _).alloc (by simp) _)

set_option maxHeartbeats 2000000 in
/-- newLongLine, for pieces ps. -/
theorem new18 (g : Nat) (a0 a1 : Option Addr) (c0 c1 : Nat) (ls : List (List Int)) (lb : List Int) (w : World) (hn : ls.length ≤ 1048576) (hT : (text ls lb).length ≤ 1048576) (hf : Full ls)
    (k0 : w.cell? ⟨g, 0, none⟩ = some (.slice a0 ls.length c0)) (k2 : w.cell? ⟨g, 2, none⟩ = some (.slice a1 lb.length c1)) (h0 : Blk w a0 ls) (h1 : Byt w a1 lb) :
    Calls Try.prog 18 #[.pointer (some ⟨g, 0, none⟩)] w fun e w' => Made w (pcs ls lb) (endOf (text ls lb)) e w' := by
  have hN := pcs_le ls lb
  have hcall := pieces19 g a0 a1 c0 c1 ls lb w hn k0 k2 h0 h1
  have hfp := full_pcs (lb := lb) hf
  have hfl := flat_pcs ls lb
  have hpn := pre_pcs ls lb
  generalize pcs ls lb = ps at hcall hN hfp hfl hpn ⊢
  generalize text ls lb = T at hT hfl hpn ⊢
  have HF : Hid (Full ps ∧ ps.flatten = T ∧ pre ps ps.length = T.length) := ⟨hfp, hfl, hpn⟩
  have HCALL := HF
  clear hfp hfl hf
  have hpm : ∀ k, k ≤ ps.length → pre ps k ≤ 1048576 := fun k hk => by have := pre_mono ps k ps.length hk (Nat.le_refl _); omega
  have HPM : Hid (∀ k, k ≤ ps.length → pre ps k ≤ 1048576) := hpm
  clear hpn hpm HCALL
  have hmk := run_make_row' (P := Try.prog) 33 3 (.int .i64 0) 8 Try.underlying33 Try.info3 rfl .i64 .i64 (ps.length + 1) (by omega) (by omega)
  rw [show ((ps.length + 1 : Nat) : Int) = (ps.length : Int) + 1 from by omega] at hmk
  have HC : Hid (Calls Try.prog 19 #[.pointer (some ⟨g, 0, none⟩)] w fun e w' => (∃ a' c', e = .returned (.slice a' ps.length c') ∧ Blk w' a' ps ∧ ∀ x, a' = some x → w.heap.size ≤ x.block) ∧ Below w.heap.size w w') := hcall
  clear hcall
  go_enter Try.func18, Try.ntmps18
  go_wp2_with fail
  refine HC.out.mono ?_
  rintro e w1 ⟨⟨ab, cb, rfl, hblk, _⟩, hbel⟩
  have hsz := hbel.size
  have hm0 := mid_start (cb := cb) hblk
  have hbel0 : Below w.heap.size w ((w1.alloc (.cells #[.slice ab ps.length cb, .slice (some ⟨w1.heap.size + 1, 0, none⟩) (ps.length + 1) (ps.length + 1), .int .i64 0, .int .i64 0, .int .i64 0] 42)).alloc (.cells (madeCells #[.int .i64 0] (ps.length + 1)) 3)) := (hbel.alloc hsz _).alloc (by simp; omega) _
  have H0 : Hid (Mid ((w1.alloc (.cells #[.slice ab ps.length cb, .slice (some ⟨w1.heap.size + 1, 0, none⟩) (ps.length + 1) (ps.length + 1), .int .i64 0, .int .i64 0, .int .i64 0] 42)).alloc (.cells (madeCells #[.int .i64 0] (ps.length + 1)) 3)) w1.heap.size (w1.heap.size + 1) ab cb ps 0 ∧ Below w.heap.size w ((w1.alloc (.cells #[.slice ab ps.length cb, .slice (some ⟨w1.heap.size + 1, 0, none⟩) (ps.length + 1) (ps.length + 1), .int .i64 0, .int .i64 0, .int .i64 0] 42)).alloc (.cells (madeCells #[.int .i64 0] (ps.length + 1)) 3))) := ⟨hm0, hbel0⟩
  clear hm0 hbel0 HC hblk hbel k0 k2 h0 h1
  go_wp2
  go_loopw [25] (fun i wr => ∃ k : Nat, k ≤ ps.length ∧ i = .int .i64 k ∧ Mid wr w1.heap.size (w1.heap.size + 1) ab cb ps k ∧ Below w.heap.size w wr) (fun i _ => ps.length - (intOf i).toNat)
  case atStart => exact ⟨0, Nat.zero_le _, rfl, H0.out.1, H0.out.2⟩
  case round =>
    clear H0
    obtain ⟨k, hk, rfl, hmid, hbel⟩ := hrel
    obtain ⟨m0, m1, m2, m3, m4, fL, fS, cS⟩ := hmid.cells
    by_cases hlt : k < ps.length
    · obtain ⟨b, off, a', c', ha, hca, _⟩ := hmid.2.2.1.at hlt
      obtain ⟨z, hz⟩ := cS k (by omega)
      have hs := pre_succ ps k hlt
      have f2 := fL 2
      have f3 := fS k
      have hp1 := HPM.out (k + 1) (by omega)
      have HS : Hid (pre ps (k + 1) = pre ps k + (ps.getD k []).length) := hs
      have HM : Hid (Mid ((wr.setCell ⟨w1.heap.size + 1, k, none⟩ (.int .i64 (pre ps k : Nat))).setCell ⟨w1.heap.size, 2, none⟩ (.int .i64 (pre ps (k + 1) : Nat))) w1.heap.size (w1.heap.size + 1) ab cb ps (k + 1) ∧ Below w.heap.size w ((wr.setCell ⟨w1.heap.size + 1, k, none⟩ (.int .i64 (pre ps k : Nat))).setCell ⟨w1.heap.size, 2, none⟩ (.int .i64 (pre ps (k + 1) : Nat)))) :=
        ⟨hmid.step hlt, (hbel.setCell (by show w.heap.size ≤ w1.heap.size + 1; omega) _).setCell hsz _⟩
      rw [hs] at hp1
      clear hs cS fL fS hmid hbel m3 m4
      generalize (ps.getD k []).length = m at hca HS hp1
      subst ha
      have hk1 : (k : Int) < (ps.length : Int) + 1 := by omega
      go_wp2
      go_region
      go_wp2
      go_roundw
      case rel =>
        refine ⟨k + 1, by omega, by go_num, ?_, ?_⟩
        · have := HM.out.1
          rw [HS.out] at this
          exact this
        · have := HM.out.2
          rw [HS.out] at this
          exact this.drew
      case measure => simp [intOf]; omega
    · have hkl : k = ps.length := by omega
      subst hkl
      obtain ⟨z, hz⟩ := cS ps.length (Nat.le_refl _)
      have f3 := fL 3
      have fs := fS ps.length
      have HM : Hid (LL ((wr.setCell ⟨w1.heap.size + 1, ps.length, none⟩ (.int .i64 (pre ps ps.length : Nat))).setCell ⟨w1.heap.size, 3, none⟩ (.int .i64 (pre ps ps.length : Nat))) w1.heap.size ps (pre ps ps.length) 0 ∧ Below w.heap.size w ((wr.setCell ⟨w1.heap.size + 1, ps.length, none⟩ (.int .i64 (pre ps ps.length : Nat))).setCell ⟨w1.heap.size, 3, none⟩ (.int .i64 (pre ps ps.length : Nat)))) :=
        ⟨hmid.done, (hbel.setCell (by show w.heap.size ≤ w1.heap.size + 1; omega) _).setCell hsz _⟩
      have hp1 := HPM.out ps.length (Nat.le_refl _)
      clear cS fL fS hmid hbel m4
      obtain ⟨n, hn'⟩ : ∃ n, pre ps ps.length = n := ⟨_, rfl⟩
      have HNT : Hid (T.length = n) := HF.out.2.2.symm.trans hn'
      have HNP : Hid (pre ps ps.length = n) := hn'
      rw [hn'] at HM m2 hp1
      by_cases hpos : 0 < n
      · go_wp2
        go_region
        go_wp2_with fail
        refine (at20 w1.heap.size ps n 0 _ (n - 1) _ (by omega) (by omega) HF.out.1 HM.out.1.drew ?hr ?hx ?hz).mono ?_
        case hr =>
          by_cases h : 0 < ps.length
          · exact h
          · have e : ps.length = 0 := by omega
            have := HNP.out
            rw [e, pre_zero] at this
            omega
        case hx => rw [HNP.out]; omega
        case hz => omega
        rintro e w2 ⟨rfl, rd1, hrd1, hl1, hb1⟩
        have hbelA : Below w.heap.size w w2 := HM.out.2.drew.trans (hb1.mono hsz)
        obtain ⟨ab1, cb1, s1, cs1, c0, c1, c2, c3, c4, _, _, _, fz, _⟩ := hl1.cells
        have f3' := fz 3
        clear HM m0 m1 m2 m3 hb1 fz c0 c1 c2 c4 hz f3 fs
        obtain ⟨v, hv⟩ : ∃ v, ps.flatten.getD (n - 1) 0 = v := ⟨_, rfl⟩
        rw [hv]
        have HV : Hid (T.getD (T.length - 1) 0 = v) := by rw [HNT.out, ← HF.out.2.1]; exact hv
        clear hv
        have HL1 : Hid (LL w2 w1.heap.size ps n rd1 ∧ Below w.heap.size w w2) := ⟨hl1, hbelA⟩
        clear hl1 hbelA
        by_cases h10 : v = 10
        · have hq : (v == (10 : Int)) = true := by rw [h10]; rfl
          have HV10 : Hid (v = 10) := h10
          clear h10
          by_cases hp2 : 1 < n
          · go_wp2_with fail
            refine (at20 w1.heap.size ps (n - 1) rd1 _ (n - 2) _ (by omega) (by omega) HF.out.1 (HL1.out.1.setEnd' _ _ (by omega)) hrd1 ?hx2 ?hz2).mono ?_
            case hx2 => rw [HNP.out]; omega
            case hz2 => omega
            rintro e w3 ⟨rfl, rd2, hrd2, hl2, hb2⟩
            have hbelB : Below w.heap.size w w3 := (HL1.out.2.setCell hsz _).trans (hb2.mono hsz)
            obtain ⟨ab2, cb2, s2, cs2, c0, c1, c2, c3, c4, _, _, _, fz, _⟩ := hl2.cells
            have f3' := fz 3
            obtain ⟨m, hm⟩ : ∃ m, n - 1 = m := ⟨_, rfl⟩
            rw [hm] at c3 hl2
            have hm1 : 0 < m := by omega
            have hm2 : m < n := by omega
            have HM2 : Hid (n - 1 = m) := hm
            clear hb2 fz c0 c1 c2 c4 HL1 hm
            obtain ⟨v2, hv2⟩ : ∃ v, ps.flatten.getD (n - 2) 0 = v := ⟨_, rfl⟩
            rw [hv2]
            have HV2 : Hid (T.getD (T.length - 2) 0 = v2) := by rw [HNT.out, ← HF.out.2.1]; exact hv2
            clear hv2
            have HL2 : Hid (LL w3 w1.heap.size ps m rd2 ∧ Below w.heap.size w w3) := ⟨hl2, hbelB⟩
            clear hl2 hbelB
            by_cases h13 : v2 = 13
            · have hq2 : (v2 == (13 : Int)) = true := by rw [h13]; rfl
              have HV13 : Hid (v2 = 13) := h13
              clear h13
              go_wp2
              go_ret
              refine made_mk w1.heap.size rd2 ?_ (HL2.out.2.setCell hsz _)
              rw [endOf_crlf (by rw [HNT.out]; omega) (HV.out.trans HV10.out) (by rw [HNT.out]; omega) (HV2.out.trans HV13.out), HNT.out]
              exact HL2.out.1.setEnd' _ _ (by have := HM2.out; omega)
            · have hq2 : (v2 == (13 : Int)) = false := beq_false_of_ne h13
              have HV13 : Hid (v2 ≠ 13) := h13
              clear h13
              go_wp2
              go_ret
              refine made_mk w1.heap.size rd2 ?_ HL2.out.2
              rw [endOf_lf (by rw [HNT.out]; omega) (HV.out.trans HV10.out) (fun h => HV13.out (HV2.out.symm.trans h.2)), HNT.out, HM2.out]
              exact HL2.out.1
          · have hn1 : ¬ (0 : Int) < (n : Int) - 1 := by omega
            go_wp2
            go_ret
            refine made_mk w1.heap.size rd1 ?_ (HL1.out.2.setCell hsz _)
            rw [endOf_lf (by rw [HNT.out]; omega) (HV.out.trans HV10.out) (by rw [HNT.out]; omega), HNT.out]
            exact HL1.out.1.setEnd' _ _ (by omega)
        · have hq : (v == (10 : Int)) = false := beq_false_of_ne h10
          have HV10 : Hid (v ≠ 10) := h10
          clear h10
          go_wp2
          go_ret
          refine made_mk w1.heap.size rd1 ?_ HL1.out.2
          rw [endOf_nl (by rw [HV.out]; exact HV10.out), HNT.out]
          exact HL1.out.1
      · have hn0 : n = 0 := by omega
        have HN0 : Hid (n = 0) := hn0
        clear hn0
        go_wp2
        go_region
        go_wp2
        go_ret
        refine made_mk w1.heap.size 0 ?_ HM.out.2.drew
        rw [endOf_no (by rw [HNT.out]; omega), HNT.out]
        exact HM.out.1.drew
end Go.Proofs.Qxb6626330a
