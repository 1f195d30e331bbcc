/-
  No cell of these rows narrows 'for every input' (looked for: loops, veiled, ifaces, maps, wideKeys, modest, calm, conditions, laid).
  DERIVED. THE GIVEN ROWS OF THIS SEAT. 2 by the template 'for every input the law returns true; each argument reads behind the call as it read before'; 0 by the template 'total and deterministic' (their statements: Qxb6626479aTotals.lean).
  GIVEN WITH THE SEED: the statements are not yours to turn. If you find one false, say at which input.
  Laid BY PROGRAM, IN A SANDBOX (cutbox-rows.mjs): the forced cells as the released guide's own fill.sh prints them over the translation 15aee61e943adcf5… (all of the seat's roots in one cut). By AI agents, Wed Nov 11 2026. No macro, syntax, notation, axiom, sorry.
-/
import Derived.Test.Qxb6626479aChecked
import GoSem.Claim
import GoSem.ClaimJoined
import GoSem.ClaimMapViews
import Derived.JoinedTies
import Derived.KernelRfl
namespace Go.Proofs.Qxb6626479a
/- THE CELL 'sum', in the pinned program and in every row, IS THE sha256 OF THE DUMP (.gsa) THAT Qxb6626479aProg.lean LOADS. Nothing in Lean hashes anything: it is a label: what it is worth is what the hold of that sum in a sandbox is worth. -/
noncomputable def Try.pinned : Pinned := { name := "qxb6626479a", sum := "15aee61e943adcf5291855e6135e348a191c50e691700e556e65c76471d88f7e", checked := Try.checked }
namespace Rows
def none {H : Type} : Left H := { results := [], args := [] }

/-- 'zzlaws_root_b1.FnStringParsesBack': WHATEVER THE INPUT: true; the input reads as it did. -/
def fnStringParsesBackSpec : ChangeSpec := { name := "fnStringParsesBack", fn := fun _ => fun
  | [d1, d2] => { results := [.lit (.bool true)], args := [d1, d2] }
  | _ => none }
def fnStringParsesBackRow : OpenClaim := { program := "qxb6626479a", sum := "15aee61e943adcf5291855e6135e348a191c50e691700e556e65c76471d88f7e", func := "example.com/gatewright/gatewright/zzlaws_root_b1.FnStringParsesBack", spec := "fnStringParsesBack", apart := false }
def FnStringParsesBackSaid : Prop := fnStringParsesBackRow.holds Try.pinned (OpenSpec.ofChange fnStringParsesBackSpec)

/-- ITS FALSE NEIGHBOUR: 'it returns false'. Refute it at one input. -/
def fnStringParsesBackWrong : ChangeSpec := { name := "fnStringParsesBack", fn := fun _ => fun
  | [d1, d2] => { results := [.lit (.bool false)], args := [d1, d2] }
  | _ => none }
def FnStringParsesBackWrongFalsely : Prop := fnStringParsesBackRow.holds Try.pinned (OpenSpec.ofChange fnStringParsesBackWrong)

/-- 'zzlaws_root_b1.FnStringJoinsAtAnyCut': WHATEVER THE INPUT: true; the input reads as it did. -/
def fnStringJoinsAtAnyCutSpec : ChangeSpec := { name := "fnStringJoinsAtAnyCut", fn := fun _ => fun
  | [d1, d2, d3] => { results := [.lit (.bool true)], args := [d1, d2, d3] }
  | _ => none }
def fnStringJoinsAtAnyCutRow : OpenClaim := { program := "qxb6626479a", sum := "15aee61e943adcf5291855e6135e348a191c50e691700e556e65c76471d88f7e", func := "example.com/gatewright/gatewright/zzlaws_root_b1.FnStringJoinsAtAnyCut", spec := "fnStringJoinsAtAnyCut", apart := false }
def FnStringJoinsAtAnyCutSaid : Prop := fnStringJoinsAtAnyCutRow.holds Try.pinned (OpenSpec.ofChange fnStringJoinsAtAnyCutSpec)

/-- ITS FALSE NEIGHBOUR: 'it returns false'. Refute it at one input. -/
def fnStringJoinsAtAnyCutWrong : ChangeSpec := { name := "fnStringJoinsAtAnyCut", fn := fun _ => fun
  | [d1, d2, d3] => { results := [.lit (.bool false)], args := [d1, d2, d3] }
  | _ => none }
def FnStringJoinsAtAnyCutWrongFalsely : Prop := fnStringJoinsAtAnyCutRow.holds Try.pinned (OpenSpec.ofChange fnStringJoinsAtAnyCutWrong)

end Rows
end Go.Proofs.Qxb6626479a
