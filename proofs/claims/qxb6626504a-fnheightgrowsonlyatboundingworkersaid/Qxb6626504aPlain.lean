/-
  Seat b6626504a: the plain laws: what the ledger's height is. No Go in sight.
-/
import Derived.Below
namespace Go.Proofs.Qxb6626504a

/-- The greatest number of 64 bits, behind a name. -/
def top : Nat := 18446744073709551615
/-- The greatest height at which every first missing position fits. -/
def lim (n : Nat) : Nat := (top - (n - 1)) / n

theorem lim_fits {n h : Nat} (hn : 1 ≤ n) (hh : h ≤ lim n) (hN : n ≤ top) : h * n + (n - 1) ≤ top := by
  unfold lim at hh
  have h1 : h * n ≤ top - (n - 1) := (Nat.le_div_iff_mul_le (by omega)).1 hh
  omega

/-- 'low' is the least height, and 'f' the first worker that has it. -/
structure HIs (H : Nat → Nat) (n low f : Nat) : Prop where
  least : ∀ j, j < n → low ≤ H j
  lt : f < n
  at' : H f = low
  first : ∀ j, j < f → H j ≠ low

/-- No worker misses an earlier position; equality at f alone. -/
theorem HIs.ge {H : Nat → Nat} {n low f : Nat} (h : HIs H n low f) {k : Nat} (hk : k < n) : low * n + f ≤ H k * n + k ∧ (H k * n + k = low * n + f ↔ k = f) := by
  have hl := h.least k hk
  have hf := h.lt
  by_cases e : H k = low
  · rw [e]
    have : ¬ k < f := fun hlt => h.first k hlt e
    omega
  · have h1 : (low + 1) * n ≤ H k * n := Nat.mul_le_mul_right n (by omega)
    rw [Nat.add_mul, Nat.one_mul] at h1
    refine ⟨by omega, fun h2 => by omega, fun h2 => ?_⟩
    subst h2
    exact absurd h.at' e

theorem HIs.mod {H : Nat → Nat} {n low f : Nat} (h : HIs H n low f) : (low * n + f) % n = f := by
  exact Nat.mul_add_mod_of_lt h.lt

/-- Worker i's height grown by one. -/
def bump (H : Nat → Nat) (i : Nat) : Nat → Nat := fun j => if j = i then H i + 1 else H j

theorem bump_same (H : Nat → Nat) (i : Nat) : bump H i i = H i + 1 := by unfold bump; rw [if_pos rfl]
theorem bump_other (H : Nat → Nat) {i j : Nat} (h : j ≠ i) : bump H i j = H j := by unfold bump; rw [if_neg h]
theorem bump_ge (H : Nat → Nat) (i j : Nat) : H j ≤ bump H i j := by
  by_cases h : j = i
  · subst h; rw [bump_same]; omega
  · rw [bump_other H h]; exact Nat.le_refl _

/-- One block more for the bounding worker: the ledger grows. -/
theorem grow_at {H : Nat → Nat} {n low f low2 f2 : Nat} (h : HIs H n low f) (h2 : HIs (bump H f) n low2 f2) : low * n + f < low2 * n + f2 := by
  have hf := h.lt
  have hl : low ≤ low2 := by
    have a := h.least f2 h2.lt
    have b := bump_ge H f f2
    have c := h2.at'
    omega
  by_cases e : low2 = low
  · subst e
    have hne : f2 ≠ f := fun he => by
      have c := h2.at'
      rw [he, bump_same, h.at'] at c
      omega
    have c := h2.at'
    rw [bump_other H hne] at c
    have : ¬ f2 < f := fun hlt => h.first f2 hlt c
    omega
  · have h1 : (low + 1) * n ≤ low2 * n := Nat.mul_le_mul_right n (by omega)
    rw [Nat.add_mul, Nat.one_mul] at h1
    omega

/-- One block more for another worker: the ledger stands. -/
theorem grow_off {H : Nat → Nat} {n low f low2 f2 i : Nat} (h : HIs H n low f) (hi : i ≠ f) (h2 : HIs (bump H i) n low2 f2) : low2 * n + f2 = low * n + f := by
  have hbf : bump H i f = low := by rw [bump_other H (fun e => hi e.symm), h.at']
  have hl : low2 = low := by
    have a := h.least f2 h2.lt
    have b := bump_ge H i f2
    have c := h2.at'
    have d := h2.least f h.lt
    omega
  subst hl
  have h1 : ¬ f < f2 := fun hlt => h2.first f hlt hbf
  have h3 : ¬ f2 < f := fun hlt => by
    have a := h.first f2 hlt
    have b := bump_ge H i f2
    have c := h2.at'
    have d := h.least f2 h2.lt
    omega
  have : f2 = f := by omega
  rw [this]

/-- The least of the heights 0 to k - 1 and the first. -/
def lowUpto (H : Nat → Nat) : Nat → Nat
  | 0 => H 0
  | k + 1 => min (lowUpto H k) (H k)

theorem lowUpto_le (H : Nat → Nat) (k : Nat) : ∀ j, j < k → lowUpto H k ≤ H j := by
  induction k with
  | zero => intro j hj; omega
  | succ k ih =>
    intro j hj
    show min (lowUpto H k) (H k) ≤ H j
    by_cases e : j = k
    · subst e; exact Nat.min_le_right _ _
    · have := ih j (by omega)
      omega

theorem lowUpto_le0 (H : Nat → Nat) (k : Nat) : lowUpto H k ≤ H 0 := by
  induction k with
  | zero => exact Nat.le_refl _
  | succ k ih =>
    show min (lowUpto H k) (H k) ≤ H 0
    omega

theorem lowUpto_in (H : Nat → Nat) (k : Nat) : ∃ j, j < max k 1 ∧ lowUpto H k = H j := by
  induction k with
  | zero => exact ⟨0, by omega, rfl⟩
  | succ k ih =>
    obtain ⟨j, hj, e⟩ := ih
    by_cases h : lowUpto H k ≤ H k
    · exact ⟨j, by omega, by show min (lowUpto H k) (H k) = H j; rw [Nat.min_eq_left h, e]⟩
    · exact ⟨k, by omega, by show min (lowUpto H k) (H k) = H k; rw [Nat.min_eq_right (by omega)]⟩
end Go.Proofs.Qxb6626504a
