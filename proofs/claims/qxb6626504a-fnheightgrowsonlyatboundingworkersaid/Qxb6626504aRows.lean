/-
  No cell of these rows narrows 'for every input' (looked for: loops, veiled, ifaces, maps, wideKeys, modest, calm, conditions, laid).
  DERIVED. THE GIVEN ROWS OF THIS SEAT. 2 by the template 'for every input the law returns true; each argument reads behind the call as it read before'; 0 by the template 'total and deterministic' (their statements: Qxb6626504aTotals.lean).
  GIVEN WITH THE SEED: the statements are not yours to turn. If you find one false, say at which input.
  Laid BY PROGRAM, IN A SANDBOX (cutbox-rows.mjs): the forced cells as the released guide's own fill.sh prints them over the translation 8f6534a8910dc347… (all of the seat's roots in one cut). By AI agents, Wed Nov 11 2026. No macro, syntax, notation, axiom, sorry.
-/
import Derived.Test.Qxb6626504aChecked
import GoSem.Claim
import GoSem.ClaimJoined
import GoSem.ClaimMapViews
import Derived.JoinedTies
import Derived.KernelRfl
namespace Go.Proofs.Qxb6626504a
/- THE CELL 'sum', in the pinned program and in every row, IS THE sha256 OF THE DUMP (.gsa) THAT Qxb6626504aProg.lean LOADS. Nothing in Lean hashes anything: it is a label: what it is worth is what the hold of that sum in a sandbox is worth. -/
noncomputable def Try.pinned : Pinned := { name := "qxb6626504a", sum := "8f6534a8910dc347c62c9ba8cecd550e97de8a5aa66903d9536208f7a98aa179", checked := Try.checked }
namespace Rows
def none {H : Type} : Left H := { results := [], args := [] }

/-- 'zzlaws_internal_ledger_b1.FnHeightIsEarliestMissingPosition': WHATEVER THE INPUT: true; the input reads as it did. -/
def fnHeightIsEarliestMissingPositionSpec : ChangeSpec := { name := "fnHeightIsEarliestMissingPosition", fn := fun _ => fun
  | [d] => { results := [.lit (.bool true)], args := [d] }
  | _ => none }
def fnHeightIsEarliestMissingPositionRow : OpenClaim := { program := "qxb6626504a", sum := "8f6534a8910dc347c62c9ba8cecd550e97de8a5aa66903d9536208f7a98aa179", func := "example.com/brazier/brazier/zzlaws_internal_ledger_b1.FnHeightIsEarliestMissingPosition", spec := "fnHeightIsEarliestMissingPosition", apart := false }
def FnHeightIsEarliestMissingPositionSaid : Prop := fnHeightIsEarliestMissingPositionRow.holds Try.pinned (OpenSpec.ofChange fnHeightIsEarliestMissingPositionSpec)

/-- ITS FALSE NEIGHBOUR: 'it returns false'. Refute it at one input. -/
def fnHeightIsEarliestMissingPositionWrong : ChangeSpec := { name := "fnHeightIsEarliestMissingPosition", fn := fun _ => fun
  | [d] => { results := [.lit (.bool false)], args := [d] }
  | _ => none }
def FnHeightIsEarliestMissingPositionWrongFalsely : Prop := fnHeightIsEarliestMissingPositionRow.holds Try.pinned (OpenSpec.ofChange fnHeightIsEarliestMissingPositionWrong)

/-- 'zzlaws_internal_ledger_b1.FnHeightGrowsOnlyAtBoundingWorker': WHATEVER THE INPUT: true; the input reads as it did. -/
def fnHeightGrowsOnlyAtBoundingWorkerSpec : ChangeSpec := { name := "fnHeightGrowsOnlyAtBoundingWorker", fn := fun _ => fun
  | [d1, d2] => { results := [.lit (.bool true)], args := [d1, d2] }
  | _ => none }
def fnHeightGrowsOnlyAtBoundingWorkerRow : OpenClaim := { program := "qxb6626504a", sum := "8f6534a8910dc347c62c9ba8cecd550e97de8a5aa66903d9536208f7a98aa179", func := "example.com/brazier/brazier/zzlaws_internal_ledger_b1.FnHeightGrowsOnlyAtBoundingWorker", spec := "fnHeightGrowsOnlyAtBoundingWorker", apart := false }
def FnHeightGrowsOnlyAtBoundingWorkerSaid : Prop := fnHeightGrowsOnlyAtBoundingWorkerRow.holds Try.pinned (OpenSpec.ofChange fnHeightGrowsOnlyAtBoundingWorkerSpec)

/-- ITS FALSE NEIGHBOUR: 'it returns false'. Refute it at one input. -/
def fnHeightGrowsOnlyAtBoundingWorkerWrong : ChangeSpec := { name := "fnHeightGrowsOnlyAtBoundingWorker", fn := fun _ => fun
  | [d1, d2] => { results := [.lit (.bool false)], args := [d1, d2] }
  | _ => none }
def FnHeightGrowsOnlyAtBoundingWorkerWrongFalsely : Prop := fnHeightGrowsOnlyAtBoundingWorkerRow.holds Try.pinned (OpenSpec.ofChange fnHeightGrowsOnlyAtBoundingWorkerWrong)

end Rows
end Go.Proofs.Qxb6626504a
