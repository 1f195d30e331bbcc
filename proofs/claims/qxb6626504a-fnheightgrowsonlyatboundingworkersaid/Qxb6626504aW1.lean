/-
  Seat b6626504a: zzBytes, zzHeightLimit, Height.
-/
import Derived.Test.Qxb6626504aRows
import Derived.Test.Qxb6626504aPlain
import Derived.WalkKit
import Derived.WalkSpells
import Derived.WalkLawsBesides
import Derived.Deep.OwnRows
import Derived.Outline
namespace Go.Proofs.Qxb6626504a
open Go.RowKit

/-- It returned a bool. -/
def IsB (e : Ending) : Prop := ∃ r, e = .returned (.bool r)
theorem isB (r : Bool) : IsB (.returned (.bool r)) := ⟨r, rfl⟩

theorem zz5 (a : Option Addr) (n c : Nat) (w : World) : Calls Try.prog 5 #[.slice a n c] w fun e w' => IsB e ∧ w' = w := by
  by_cases h1 : n ≤ 1048576
  · go_enter Try.func5, Try.ntmps5
    go_wp2
    all_goals (go_ret; exact ⟨isB _, rfl⟩)
  · go_enter Try.func5, Try.ntmps5
    go_wp2
    all_goals (go_ret; exact ⟨isB _, rfl⟩)

theorem zz8 (a : Option Addr) (n c : Nat) (i : Int) (w : World) : Calls Try.prog 8 #[.slice a n c, .int .i64 i] w fun e w' => IsB e ∧ w' = w := by
  by_cases h1 : n ≤ 1048576
  · go_enter Try.func8, Try.ntmps8
    go_wp2
    all_goals (go_ret; exact ⟨isB _, rfl⟩)
  · go_enter Try.func8, Try.ntmps8
    go_wp2
    all_goals (go_ret; exact ⟨isB _, rfl⟩)

theorem lim_cast (n : Nat) (hn : 1 ≤ n) (hN : n ≤ 131072) : (18446744073709551615 - ((n : Int) - 1)) / (n : Int) = ((lim n : Nat) : Int) := by
  unfold lim top
  rw [Int.natCast_ediv]
  congr 1
  omega

theorem lim6 (n : Nat) (hn : 1 ≤ n) (hN : n ≤ 131072) (w : World) : Calls Try.prog 6 #[.int .u64 (n : Nat)] w fun e w' => e = .returned (.int .u64 (lim n : Nat)) ∧ w' = w := by
  rw [← lim_cast n hn hN]
  go_enter Try.func6, Try.ntmps6
  go_wp2
  go_ret
  exact ⟨rfl, rfl⟩

theorem min_if (lo h : Nat) : (if h < lo then (h : Int) else (lo : Int)) = ((min lo h : Nat) : Int) := by
  by_cases e : h < lo
  · rw [if_pos e, Nat.min_eq_right (by omega)]
  · rw [if_neg e, Nat.min_eq_left (by omega)]

/-- It returned the least first missing position. -/
def HOut (H : Nat → Nat) (n : Nat) (e : Ending) : Prop := ∃ low f, HIs H n low f ∧ e = .returned (.int .u64 (low * n + f : Nat))
theorem hout_mk {H : Nat → Nat} {n low f : Nat} (h : HIs H n low f) (z : Int) (hz : z = (low : Int) * (n : Int) + (f : Int)) : HOut H n (.returned (.int .u64 z)) :=
  ⟨low, f, h, by rw [hz, Int.natCast_add, Int.natCast_mul]⟩

set_option maxHeartbeats 1000000 in
/-- Height: the least first missing position. -/
theorem height7 (b c n : Nat) (H : Nat → Nat) (w : World) (hn : 1 ≤ n) (hN : n ≤ 131072) (hc : ∀ j, j < n → w.cell? ⟨b, j, none⟩ = some (.int .u64 (H j : Nat))) (hl : ∀ j, j < n → H j ≤ lim n) :
    Calls Try.prog 7 #[.slice (some ⟨b, 0, none⟩) n c] w fun e w' => HOut H n e ∧ w' = w := by
  have c0 := hc 0 (by omega)
  have HL : Hid (∀ j, j < n → H j ≤ lim n) := hl
  clear hl
  go_enter Try.func7, Try.ntmps7
  go_wp2
  go_loop [3, 14] (fun lo t => ∃ k : Nat, k ≤ n ∧ t = .int .i64 k ∧ lo = .int .u64 (lowUpto H k : Nat)) (fun _ t => n - (intOf t).toNat)
  case atStart => exact ⟨0, Nat.zero_le _, rfl, rfl⟩
  case round =>
    obtain ⟨k, hk, rfl, rfl⟩ := hrel
    by_cases hlt : k < n
    · have ck := hc k hlt
      have HS : Hid (lowUpto H (k + 1) = min (lowUpto H k) (H k)) := rfl
      clear c0 hc
      generalize lowUpto H k = lo at HS ⊢
      generalize H k = h at ck HS
      go_wp2
      go_round
      case rel => exact ⟨k + 1, by omega, by go_num, by rw [HS.out, ← min_if]⟩
      case measure => simp [intOf]; omega
    · have hkn : k = n := by omega
      subst hkn
      obtain ⟨m, hm, he⟩ := lowUpto_in H k
      have hm' : m < k := by omega
      have hle := lowUpto_le H k
      generalize lowUpto H k = lo at he hle ⊢
      have HLE : Hid (∀ j, j < k → lo ≤ H j) := hle
      have HE : Hid (lo = H m) := he
      have hfit : lo * k + (k - 1) ≤ top := lim_fits hn (by rw [he]; exact HL.out m hm') (by unfold top; omega)
      unfold top at hfit
      have hf0 : (0 : Int) ≤ (lo : Int) * (k : Int) := Int.mul_nonneg (by omega) (by omega)
      have hf1 : (lo : Int) * (k : Int) + (k : Int) ≤ 18446744073709551616 := by
        have : ((lo * k : Nat) : Int) = (lo : Int) * (k : Int) := Int.natCast_mul lo k
        omega
      clear hle he hfit c0
      go_wp2
      go_loop [6, 29] (fun z t => ∃ i : Nat, i ≤ k ∧ t = .int .i64 i ∧ z = .int .u64 ((lo : Int) * (k : Int) + (i : Int)) ∧ ∀ j, j < i → H j ≠ lo) (fun _ t => k - (intOf t).toNat)
      case atStart => exact ⟨0, Nat.zero_le _, rfl, by simp, fun j hj => absurd hj (Nat.not_lt_zero _)⟩
      case round =>
        obtain ⟨i, hi, rfl, rfl, hne⟩ := hrel
        have HNE : Hid (∀ j, j < i → H j ≠ lo) := hne
        clear hne
        by_cases hil : i < k
        · have ci := hc i hil
          clear hc
          obtain ⟨h, hh⟩ : ∃ h, H i = h := ⟨_, rfl⟩
          rw [hh] at ci
          have HH : Hid (H i = h) := hh
          clear hh
          by_cases hhl : h = lo
          · have q : ((h : Int) == (lo : Int)) = true := by rw [hhl]; simp
            have HI : Hid (HIs H k lo i) := ⟨HLE.out, hil, HH.out.trans hhl, HNE.out⟩
            clear hhl
            go_wp2
            go_ret
            exact ⟨hout_mk HI.out _ rfl, rfl⟩
          · have q : ((h : Int) == (lo : Int)) = false := beq_false_of_ne (by omega)
            have HN2 : Hid (∀ j, j < i + 1 → H j ≠ lo) := fun j hj => by
              by_cases e : j = i
              · subst e; rw [HH.out]; exact hhl
              · exact HNE.out j (by omega)
            have him : i < m := by
              by_cases e : i < m
              · exact e
              · exact absurd HE.out.symm (HN2.out m (by omega))
            clear hhl
            go_wp2
            go_round
            case rel => exact ⟨i + 1, by omega, by go_num, by rw [Int.natCast_add, Int.add_assoc]; rfl, HN2.out⟩
            case measure => simp [intOf]; omega
        · exact absurd HE.out.symm (HNE.out m (by omega))
end Go.Proofs.Qxb6626504a
