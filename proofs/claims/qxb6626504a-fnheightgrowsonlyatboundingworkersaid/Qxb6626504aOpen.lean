/-
  Seat b6626504a: a slice of uint64 that came in, as natural numbers; the law's walk for every slice.
-/
import Derived.Test.Qxb6626504aW2
import Derived.OpenShut
namespace Go.Proofs.Qxb6626504a
open Go.RowKit Go.ChangeShapes Go.WideShapes

theorem nat_row {w : World} {x : Addr} {zs : List Int} {len : Nat} (hl : len ≤ zs.length) (hpos : 0 < len) (hcell : ∀ i, i < zs.length → w.cell? (x.add i) = some (.int .u64 (zs.getD i 0))) (hwz : ∀ n ∈ zs, (Lit.int .u64 n).wf = true) :
    ∃ b off, ∃ H : Nat → Nat, x = ⟨b, off, none⟩ ∧ ∀ j, j < len → w.cell? ⟨b, off + j, none⟩ = some (.int .u64 (H j : Nat)) := by
  obtain ⟨b, off, rfl, hc⟩ := ints_at hcell (by omega)
  refine ⟨b, off, fun j => (zs.getD j 0).toNat, rfl, fun j hj => ?_⟩
  have hlt : j < zs.length := by omega
  rw [hc j hlt]
  have hmem : zs.getD j 0 ∈ zs := by
    rw [List.getD_eq_getElem?_getD, List.getElem?_eq_getElem hlt]
    exact List.getElem_mem hlt
  have hb := bounds_u64 (hwz _ hmem)
  have e : ((zs.getD j 0).toNat : Int) = zs.getD j 0 := Int.toNat_of_nonneg hb.1
  rw [e]

/-- No heights at all. -/
theorem walk3e (a : Option Addr) (c : Nat) (w : World) : Calls Try.prog 3 #[.slice a 0 c] w fun e w' => e = .returned (.bool true) ∧ Below w.heap.size w w' := by
  go_enter Try.func3, Try.ntmps3
  go_wp2_with fail
  refine (zz5 _ _ _ w).mono ?_
  rintro e w1 ⟨⟨r, rfl⟩, hw⟩
  rw [hw]
  cases r
  all_goals (go_wp2; go_ret; exact ⟨rfl, Below.refl _ _⟩)
end Go.Proofs.Qxb6626504a
