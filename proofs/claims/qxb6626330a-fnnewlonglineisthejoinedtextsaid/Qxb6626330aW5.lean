/-
  Seat b6626330a: slices.BinarySearch at []int, over the row of starts.
-/
import Derived.Test.Qxb6626330aW4
namespace Go.Proofs.Qxb6626330a
open Go.RowKit

set_option maxHeartbeats 400000 in
/-- slices.isNaN at int: false. -/
theorem nan26 (x : Int) (w : World) : Calls Try.prog 26 #[.int .i64 x] w fun e w' => e = .returned (.bool false) ∧ w' = w := by
  go_enter Try.func26, Try.ntmps26
  go_wp2
  go_ret
  exact ⟨by simp, rfl⟩

theorem nan27 (x : Int) (w : World) : Calls Try.prog 27 #[.int .i64 x] w fun e w' => e = .returned (.bool false) ∧ w' = w := by
  go_enter Try.func27, Try.ntmps27
  go_wp2
  go_ret
  exact ⟨by simp, rfl⟩

theorem less25 (x y : Int) (w : World) : Calls Try.prog 25 #[.int .i64 x, .int .i64 y] w fun e w' => e = .returned (.bool (decide (x < y))) ∧ w' = w := by
  go_enter Try.func25, Try.ntmps25
  go_wp2_with (go_at_call 27; refine (nan27 _ _).mono ?_; rintro e w' ⟨rfl, rfl⟩)
  go_ret
  exact ⟨rfl, rfl⟩

set_option maxHeartbeats 1000000 in
/-- slices.BinarySearch over a row that never falls and ends above x: the first place that is not below x, and whether x stands there. -/
theorem bs24 (b c N : Nat) (S : Nat → Nat) (x : Nat) (w : World) (hN : N ≤ 1048577) (hc : ∀ j, j ≤ N → w.cell? ⟨b, j, none⟩ = some (.int .i64 (S j : Nat))) (hs : ∀ i j, i ≤ j → j ≤ N → S i ≤ S j) (hx : x < S N) :
    Calls Try.prog 24 #[.slice (some ⟨b, 0, none⟩) (N + 1) c, .int .i64 x] w fun e w' => (∃ lo : Nat, lo ≤ N ∧ (∀ t, t < lo → S t < x) ∧ x ≤ S lo ∧ e = .returned (.tuple #[.int .i64 lo, .bool (decide (S lo = x))])) ∧ w' = w := by
  have SS : Hid (∀ i j, i ≤ j → j ≤ N → S i ≤ S j) := hs
  have SX : Hid (x < S N) := hx
  clear hs hx
  go_enter Try.func24, Try.ntmps24
  go_wp2
  go_loopg [7, 8] (N + 1) (fun g s7 s8 wr => ∃ lo hi : Nat, s7 = .int .i64 lo ∧ s8 = .int .i64 hi ∧ lo ≤ hi ∧ hi ≤ N + 1 ∧ hi - lo ≤ g ∧ wr = w ∧ (∀ t, t < lo → S t < x) ∧ (∀ t, hi ≤ t → t ≤ N → x ≤ S t))
  case atStart => exact ⟨0, N + 1, rfl, rfl, Nat.zero_le _, Nat.le_refl _, by omega, rfl, fun t ht => absurd ht (Nat.not_lt_zero _), fun t h1 h2 => by omega⟩
  case round =>
    obtain ⟨lo, hi, rfl, rfl, hlh, hin, hg, rfl, h1, h2⟩ := hrel
    have I : Hid ((∀ t, t < lo → S t < x) ∧ (∀ t, hi ≤ t → t ≤ N → x ≤ S t)) := ⟨h1, h2⟩
    clear h1 h2
    by_cases hlt : lo < hi
    · have cm := hc ((lo + hi) / 2) (by omega)
      clear hc
      obtain ⟨y, hy⟩ : ∃ y, S ((lo + hi) / 2) = y := ⟨_, rfl⟩
      rw [hy] at cm
      have Y : Hid (S ((lo + hi) / 2) = y) := hy
      clear hy
      by_cases hyx : y < x
      · go_wp2_with (go_at_call 25; refine (less25 _ _ _).mono ?_; rintro e w' ⟨rfl, rfl⟩)
        go_roundg (hi - ((lo + hi) / 2 + 1))
        case measure => omega
        case rel =>
          refine ⟨(lo + hi) / 2 + 1, hi, by rw [show ((lo : Int) + (hi : Int)) / 2 + 1 = (((lo + hi) / 2 + 1 : Nat) : Int) by omega], rfl, by omega, hin, Nat.le_refl _, rfl, fun t ht => ?_, I.out.2⟩
          have := SS.out t ((lo + hi) / 2) (by omega) (by omega)
          rw [Y.out] at this
          omega
      · go_wp2_with (go_at_call 25; refine (less25 _ _ _).mono ?_; rintro e w' ⟨rfl, rfl⟩)
        go_roundg ((lo + hi) / 2 - lo)
        case measure => omega
        case rel =>
          refine ⟨lo, (lo + hi) / 2, rfl, by rw [show ((lo : Int) + (hi : Int)) / 2 = (((lo + hi) / 2 : Nat) : Int) by omega], by omega, by omega, Nat.le_refl _, rfl, I.out.1, fun t ht htn => ?_⟩
          have := SS.out ((lo + hi) / 2) t ht htn
          rw [Y.out] at this
          omega
    · have : hi = lo := by omega
      subst this
      have hloN : hi ≤ N := by
        by_cases h : hi ≤ N
        · exact h
        · have := I.out.1 N (by omega)
          have := SX.out
          omega
      have cl := hc hi hloN
      clear hc
      have hxl := I.out.2 hi (Nat.le_refl _) hloN
      have R : Hid (∃ lo : Nat, lo ≤ N ∧ (∀ t, t < lo → S t < x) ∧ x ≤ S lo ∧ Ending.returned (.tuple #[.int .i64 hi, .bool (decide (S hi = x))]) = .returned (.tuple #[.int .i64 lo, .bool (decide (S lo = x))])) := ⟨hi, hloN, I.out.1, hxl, rfl⟩
      by_cases hyx : S hi = x
      · have hd : decide (S hi = x) = true := decide_eq_true hyx
        rw [hd] at R
        rw [hyx] at cl
        clear hyx hd hxl
        go_wp2_with (go_at_call 26; refine (nan26 _ _).mono ?_; rintro e w' ⟨rfl, rfl⟩)
        go_ret2
        exact ⟨R.out, rfl⟩
      · have hd : decide (S hi = x) = false := decide_eq_false hyx
        rw [hd] at R
        obtain ⟨y, hy⟩ : ∃ y, S hi = y := ⟨_, rfl⟩
        rw [hy] at cl hyx hxl
        have hyx' : x < y := by omega
        have hq : ((y : Int) == (x : Int)) = false := beq_false_of_ne (by omega)
        clear hy hyx hd
        go_wp2_with (go_at_call 26; refine (nan26 _ _).mono ?_; rintro e w' ⟨rfl, rfl⟩)
        go_ret2
        exact ⟨R.out, rfl⟩
end Go.Proofs.Qxb6626330a
