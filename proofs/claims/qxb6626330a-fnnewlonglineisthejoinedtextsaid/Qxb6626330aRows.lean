/-
  No cell of these rows narrows 'for every input' (looked for: loops, veiled, ifaces, maps, wideKeys, modest, calm, conditions, laid).
  DERIVED. THE GIVEN ROWS OF THIS SEAT. 2 by the template 'for every input the law returns true; each argument reads behind the call as it read before'; 0 by the template 'total and deterministic' (their statements: Qxb6626330aTotals.lean).
  GIVEN WITH THE SEED: the statements are not yours to turn. If you find one false, say at which input.
  Laid BY PROGRAM, IN A SANDBOX (cutbox-rows.mjs): the forced cells as the released guide's own fill.sh prints them over the translation d4b7ee7cd247a4c5… (all of the seat's roots in one cut). By AI agents, Wed Nov 11 2026. No macro, syntax, notation, axiom, sorry.
-/
import Derived.Test.Qxb6626330aChecked
import GoSem.Claim
import GoSem.ClaimJoined
import GoSem.ClaimMapViews
import Derived.JoinedTies
import Derived.KernelRfl
namespace Go.Proofs.Qxb6626330a
/- THE CELL 'sum', in the pinned program and in every row, IS THE sha256 OF THE DUMP (.gsa) THAT Qxb6626330aProg.lean LOADS. Nothing in Lean hashes anything: it is a label: what it is worth is what the hold of that sum in a sandbox is worth. -/
noncomputable def Try.pinned : Pinned := { name := "qxb6626330a", sum := "d4b7ee7cd247a4c53f3de8bdaf5c39548a93c31ef7ab67306400401323386023", checked := Try.checked }
namespace Rows
def none {H : Type} : Left H := { results := [], args := [] }

/-- 'zzlaws_root_b1.FnNewLongLineIsTheJoinedText': WHATEVER THE INPUT: true; the input reads as it did. -/
def fnNewLongLineIsTheJoinedTextSpec : ChangeSpec := { name := "fnNewLongLineIsTheJoinedText", fn := fun _ => fun
  | [d1, d2] => { results := [.lit (.bool true)], args := [d1, d2] }
  | _ => none }
def fnNewLongLineIsTheJoinedTextRow : OpenClaim := { program := "qxb6626330a", sum := "d4b7ee7cd247a4c53f3de8bdaf5c39548a93c31ef7ab67306400401323386023", func := "example.com/column-text/column-text/zzlaws_root_b1.FnNewLongLineIsTheJoinedText", spec := "fnNewLongLineIsTheJoinedText", apart := false }
def FnNewLongLineIsTheJoinedTextSaid : Prop := fnNewLongLineIsTheJoinedTextRow.holds Try.pinned (OpenSpec.ofChange fnNewLongLineIsTheJoinedTextSpec)

/-- ITS FALSE NEIGHBOUR: 'it returns false'. Refute it at one input. -/
def fnNewLongLineIsTheJoinedTextWrong : ChangeSpec := { name := "fnNewLongLineIsTheJoinedText", fn := fun _ => fun
  | [d1, d2] => { results := [.lit (.bool false)], args := [d1, d2] }
  | _ => none }
def FnNewLongLineIsTheJoinedTextWrongFalsely : Prop := fnNewLongLineIsTheJoinedTextRow.holds Try.pinned (OpenSpec.ofChange fnNewLongLineIsTheJoinedTextWrong)

/-- 'zzlaws_root_b1.FnNewLongLineSameForAnyRegrouping': WHATEVER THE INPUT: true; the input reads as it did. -/
def fnNewLongLineSameForAnyRegroupingSpec : ChangeSpec := { name := "fnNewLongLineSameForAnyRegrouping", fn := fun _ => fun
  | [d1, d2, d3] => { results := [.lit (.bool true)], args := [d1, d2, d3] }
  | _ => none }
def fnNewLongLineSameForAnyRegroupingRow : OpenClaim := { program := "qxb6626330a", sum := "d4b7ee7cd247a4c53f3de8bdaf5c39548a93c31ef7ab67306400401323386023", func := "example.com/column-text/column-text/zzlaws_root_b1.FnNewLongLineSameForAnyRegrouping", spec := "fnNewLongLineSameForAnyRegrouping", apart := false }
def FnNewLongLineSameForAnyRegroupingSaid : Prop := fnNewLongLineSameForAnyRegroupingRow.holds Try.pinned (OpenSpec.ofChange fnNewLongLineSameForAnyRegroupingSpec)

/-- ITS FALSE NEIGHBOUR: 'it returns false'. Refute it at one input. -/
def fnNewLongLineSameForAnyRegroupingWrong : ChangeSpec := { name := "fnNewLongLineSameForAnyRegrouping", fn := fun _ => fun
  | [d1, d2, d3] => { results := [.lit (.bool false)], args := [d1, d2, d3] }
  | _ => none }
def FnNewLongLineSameForAnyRegroupingWrongFalsely : Prop := fnNewLongLineSameForAnyRegroupingRow.holds Try.pinned (OpenSpec.ofChange fnNewLongLineSameForAnyRegroupingWrong)

end Rows
end Go.Proofs.Qxb6626330a
