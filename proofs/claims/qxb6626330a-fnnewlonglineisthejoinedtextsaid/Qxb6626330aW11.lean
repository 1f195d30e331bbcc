/-
  Seat b6626330a: lineEndFree; a piece of the text where it lies.
-/
import Derived.Test.Qxb6626330aW10
namespace Go.Proofs.Qxb6626330a
open Go.RowKit

theorem byt_lit {w : World} {b off : Nat} {l : List Int} (h : Byt w (some ⟨b, off, none⟩) l) {k : Nat} (hk : k < l.length) : w.cell? ⟨b, off + k, none⟩ = some (.int .u8 (l.getD k 0)) := by
  obtain ⟨b', off', e, hc⟩ := h.at hk
  cases e
  exact hc k hk

/-- A piece lies in the text, at its start. -/
theorem byt_piece {w : World} {b : Nat} {T : List Int} {ps : List (List Int)} (h : Byt w (some ⟨b, 0, none⟩) T) (hT : ps.flatten = T) {k : Nat} (hk : k < ps.length) : Byt w (some ⟨b, pre ps k, none⟩) (ps.getD k []) := by
  refine .inr ⟨b, pre ps k, rfl, fun i hi => ?_⟩
  have hs := pre_succ ps k hk
  have hle := pre_mono ps (k + 1) ps.length (by omega) (Nat.le_refl _)
  have hall := pre_all ps
  rw [hT] at hall
  have h1 := byt_lit h (k := pre ps k + i) (by omega)
  have h2 := flat_at ps (pre ps k + i) k ⟨hk, by omega, by omega⟩
  rw [hT, Nat.add_sub_cancel_left] at h2
  rw [Nat.zero_add] at h1
  rw [h1, h2]

set_option maxHeartbeats 1000000 in
/-- lineEndFree: the length of the text without its line end. -/
theorem line16 (b c : Nat) (T : List Int) (w : World) (hn : T.length ≤ 1048576) (h : Byt w (some ⟨b, 0, none⟩) T) :
    Calls Try.prog 16 #[.slice (some ⟨b, 0, none⟩) T.length c] w fun e w' => e = .returned (.int .i64 (endOf T : Nat)) ∧ w' = w := by
  by_cases h0 : T.length = 0
  · have he : endOf T = T.length := endOf_no (by omega)
    rw [he, h0]
    go_enter Try.func16, Try.ntmps16
    go_wp2
    go_ret
    exact ⟨rfl, rfl⟩
  · have g1 := byt_lit h (k := T.length - 1) (by omega)
    rw [Nat.zero_add] at g1
    by_cases h1 : T.length = 1
    · have d1 : decide ((2 : Int) ≤ (T.length : Int)) = false := decide_eq_false (by omega)
      by_cases hv : T.getD (T.length - 1) 0 = 10
      · rw [endOf_lf (by omega) hv (by omega)]
        rw [hv] at g1
        clear hv h
        generalize T.length = n at *
        subst h1
        go_enter Try.func16, Try.ntmps16
        go_wp2
        go_ret
        exact ⟨rfl, rfl⟩
      · rw [endOf_nl hv]
        obtain ⟨v, hv'⟩ : ∃ v, T.getD (T.length - 1) 0 = v := ⟨_, rfl⟩
        rw [hv'] at g1 hv
        have q : (v == (10 : Int)) = false := beq_false_of_ne hv
        clear hv hv' h
        generalize T.length = n at *
        subst h1
        go_enter Try.func16, Try.ntmps16
        go_wp2
        go_ret
        exact ⟨rfl, rfl⟩
    · have g2 := byt_lit h (k := T.length - 2) (by omega)
      rw [Nat.zero_add] at g2
      by_cases hv : T.getD (T.length - 1) 0 = 10
      · by_cases hv2 : T.getD (T.length - 2) 0 = 13
        · rw [endOf_crlf (by omega) hv (by omega) hv2]
          rw [hv] at g1
          rw [hv2] at g2
          clear hv hv2 h
          generalize T.length = n at *
          obtain ⟨m, rfl⟩ : ∃ m, n = m + 2 := ⟨n - 2, by omega⟩
          rw [show m + 2 - 2 = m from by omega] at g2
          have g3 := g1
          rw [show m + 2 - 1 = m + 1 from by omega] at g3
          go_enter Try.func16, Try.ntmps16
          go_wp2
          go_ret
          exact ⟨by simp, rfl⟩
        · rw [endOf_lf (by omega) hv (fun h => hv2 h.2)]
          obtain ⟨v, hv'⟩ : ∃ v, T.getD (T.length - 2) 0 = v := ⟨_, rfl⟩
          rw [hv'] at g2 hv2
          have q : (v == (13 : Int)) = false := beq_false_of_ne hv2
          rw [hv] at g1
          clear hv hv2 hv' h
          generalize T.length = n at *
          obtain ⟨m, rfl⟩ : ∃ m, n = m + 2 := ⟨n - 2, by omega⟩
          rw [show m + 2 - 2 = m from by omega] at g2
          have g3 := g1
          rw [show m + 2 - 1 = m + 1 from by omega] at g3
          go_enter Try.func16, Try.ntmps16
          go_wp2
          go_ret
          exact ⟨by simp; omega, rfl⟩
      · rw [endOf_nl hv]
        obtain ⟨v, hv'⟩ : ∃ v, T.getD (T.length - 1) 0 = v := ⟨_, rfl⟩
        rw [hv'] at g1 hv
        have q : (v == (10 : Int)) = false := beq_false_of_ne hv
        obtain ⟨v2, hv2⟩ : ∃ v, T.getD (T.length - 2) 0 = v := ⟨_, rfl⟩
        rw [hv2] at g2
        clear hv hv2 hv' h
        generalize T.length = n at *
        obtain ⟨m, rfl⟩ : ∃ m, n = m + 2 := ⟨n - 2, by omega⟩
        rw [show m + 2 - 2 = m from by omega] at g2
        have g3 := g1
        rw [show m + 2 - 1 = m + 1 from by omega] at g3
        by_cases h13 : v2 = 13
        · have q2 : (v2 == (13 : Int)) = true := by rw [h13]; rfl
          have H : Hid (v2 = 13) := h13
          clear h13
          go_enter Try.func16, Try.ntmps16
          go_wp2
          go_ret
          exact ⟨by simp, rfl⟩
        · have q2 : (v2 == (13 : Int)) = false := beq_false_of_ne h13
          clear h13
          go_enter Try.func16, Try.ntmps16
          go_wp2
          go_ret
          exact ⟨by simp, rfl⟩

theorem pcs_pos {ls : List (List Int)} {lb : List Int} (h : 0 < lb.length) : pcs ls lb = ls ++ [lb] := by unfold pcs; rw [if_neg (by omega)]
theorem pcs_zero {ls : List (List Int)} {lb : List Int} (h : ¬ 0 < lb.length) : pcs ls lb = ls := by unfold pcs; rw [if_pos (by omega)]
theorem app_left {ls : List (List Int)} {lb : List Int} {k : Nat} (h : k < ls.length) : (ls ++ [lb]).getD k [] = ls.getD k [] := by simp [List.getD, List.getElem?_append_left h]
theorem app_last {ls : List (List Int)} {lb : List Int} : (ls ++ [lb]).getD ls.length [] = lb := by simp [List.getD]
end Go.Proofs.Qxb6626330a
