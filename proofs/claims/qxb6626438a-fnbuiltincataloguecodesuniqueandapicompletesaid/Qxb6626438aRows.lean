/-
  No cell of these rows narrows 'for every input' (looked for: loops, veiled, ifaces, maps, wideKeys, modest, calm, conditions, laid).
  DERIVED. THE GIVEN ROWS OF THIS SEAT. 2 by the template 'for every input the law returns true; each argument reads behind the call as it read before'; 0 by the template 'total and deterministic' (their statements: Qxb6626438aTotals.lean).
  GIVEN WITH THE SEED: the statements are not yours to turn. If you find one false, say at which input.
  Laid BY PROGRAM, IN A SANDBOX (cutbox-rows.mjs): the forced cells as the released guide's own fill.sh prints them over the translation 79084aacc87e446f… (all of the seat's roots in one cut). By AI agents, Wed Nov 11 2026. No macro, syntax, notation, axiom, sorry.
-/
import Derived.Test.Qxb6626438aChecked
import GoSem.Claim
import GoSem.ClaimJoined
import GoSem.ClaimMapViews
import Derived.JoinedTies
import Derived.KernelRfl
namespace Go.Proofs.Qxb6626438a
/- THE CELL 'sum', in the pinned program and in every row, IS THE sha256 OF THE DUMP (.gsa) THAT Qxb6626438aProg.lean LOADS. Nothing in Lean hashes anything: it is a label: what it is worth is what the hold of that sum in a sandbox is worth. -/
noncomputable def Try.pinned : Pinned := { name := "qxb6626438a", sum := "79084aacc87e446fb62d017cc7f2f6a64745eee087e74a65425914711c873239", checked := Try.checked }
namespace Rows
def none {H : Type} : Left H := { results := [], args := [] }

/-- 'zzlaws_pkg_rbac_b1.FnBuiltinCatalogueCodesUniqueAndAPIComplete': WHATEVER THE INPUT: true; the input reads as it did. -/
def fnBuiltinCatalogueCodesUniqueAndAPICompleteSpec : ChangeSpec := { name := "fnBuiltinCatalogueCodesUniqueAndAPIComplete", fn := fun _ => fun
  | [] => { results := [.lit (.bool true)], args := [] }
  | _ => none }
def fnBuiltinCatalogueCodesUniqueAndAPICompleteRow : OpenClaim := { program := "qxb6626438a", sum := "79084aacc87e446fb62d017cc7f2f6a64745eee087e74a65425914711c873239", func := "example.com/rolebook/rolebook/zzlaws_pkg_rbac_b1.FnBuiltinCatalogueCodesUniqueAndAPIComplete", spec := "fnBuiltinCatalogueCodesUniqueAndAPIComplete", apart := false }
def FnBuiltinCatalogueCodesUniqueAndAPICompleteSaid : Prop := fnBuiltinCatalogueCodesUniqueAndAPICompleteRow.holds Try.pinned (OpenSpec.ofChange fnBuiltinCatalogueCodesUniqueAndAPICompleteSpec)

/-- ITS FALSE NEIGHBOUR: 'it returns false'. Refute it at one input. -/
def fnBuiltinCatalogueCodesUniqueAndAPICompleteWrong : ChangeSpec := { name := "fnBuiltinCatalogueCodesUniqueAndAPIComplete", fn := fun _ => fun
  | [] => { results := [.lit (.bool false)], args := [] }
  | _ => none }
def FnBuiltinCatalogueCodesUniqueAndAPICompleteWrongFalsely : Prop := fnBuiltinCatalogueCodesUniqueAndAPICompleteRow.holds Try.pinned (OpenSpec.ofChange fnBuiltinCatalogueCodesUniqueAndAPICompleteWrong)

/-- 'zzlaws_pkg_rbac_b1.FnBuiltinCatalogueFreshOnEveryCall': WHATEVER THE INPUT: true; the input reads as it did. -/
def fnBuiltinCatalogueFreshOnEveryCallSpec : ChangeSpec := { name := "fnBuiltinCatalogueFreshOnEveryCall", fn := fun _ => fun
  | [] => { results := [.lit (.bool true)], args := [] }
  | _ => none }
def fnBuiltinCatalogueFreshOnEveryCallRow : OpenClaim := { program := "qxb6626438a", sum := "79084aacc87e446fb62d017cc7f2f6a64745eee087e74a65425914711c873239", func := "example.com/rolebook/rolebook/zzlaws_pkg_rbac_b1.FnBuiltinCatalogueFreshOnEveryCall", spec := "fnBuiltinCatalogueFreshOnEveryCall", apart := false }
def FnBuiltinCatalogueFreshOnEveryCallSaid : Prop := fnBuiltinCatalogueFreshOnEveryCallRow.holds Try.pinned (OpenSpec.ofChange fnBuiltinCatalogueFreshOnEveryCallSpec)

/-- ITS FALSE NEIGHBOUR: 'it returns false'. Refute it at one input. -/
def fnBuiltinCatalogueFreshOnEveryCallWrong : ChangeSpec := { name := "fnBuiltinCatalogueFreshOnEveryCall", fn := fun _ => fun
  | [] => { results := [.lit (.bool false)], args := [] }
  | _ => none }
def FnBuiltinCatalogueFreshOnEveryCallWrongFalsely : Prop := fnBuiltinCatalogueFreshOnEveryCallRow.holds Try.pinned (OpenSpec.ofChange fnBuiltinCatalogueFreshOnEveryCallWrong)

end Rows
end Go.Proofs.Qxb6626438a
