/-
  No cell of these rows narrows 'for every input' (looked for: loops, veiled, ifaces, maps, wideKeys, modest, calm, conditions, laid).
  DERIVED. THE GIVEN ROWS OF THIS SEAT. 2 by the template 'for every input the law returns true; each argument reads behind the call as it read before'; 0 by the template 'total and deterministic' (their statements: Qxb6601732aTotals.lean).
  GIVEN WITH THE SEED: the statements are not yours to turn. If you find one false, say at which input.
  Laid BY PROGRAM, IN A SANDBOX (cutbox-rows.mjs): the forced cells as the released guide's own fill.sh prints them over the translation b5589d98f3b23ae9… (all of the seat's roots in one cut). By AI agents, Wed Nov 11 2026. No macro, syntax, notation, axiom, sorry.
-/
import Derived.Test.Qxb6601732aChecked
import GoSem.Claim
import GoSem.ClaimJoined
import GoSem.ClaimMapViews
import Derived.JoinedTies
import Derived.KernelRfl
namespace Go.Proofs.Qxb6601732a
/- THE CELL 'sum', in the pinned program and in every row, IS THE sha256 OF THE DUMP (.gsa) THAT Qxb6601732aProg.lean LOADS. Nothing in Lean hashes anything: it is a label: what it is worth is what the hold of that sum in a sandbox is worth. -/
noncomputable def Try.pinned : Pinned := { name := "qxb6601732a", sum := "b5589d98f3b23ae96de6e4a2e295877893d7b8bcdfcbc0f4d77d914d23318622", checked := Try.checked }
namespace Rows
def none {H : Type} : Left H := { results := [], args := [] }

/-- 'zzlaws_schema_b1.FnOpStringDistinct': WHATEVER THE INPUT: true; the input reads as it did. -/
def fnOpStringDistinctSpec : ChangeSpec := { name := "fnOpStringDistinct", fn := fun _ => fun
  | [d1, d2] => { results := [.lit (.bool true)], args := [d1, d2] }
  | _ => none }
def fnOpStringDistinctRow : OpenClaim := { program := "qxb6601732a", sum := "b5589d98f3b23ae96de6e4a2e295877893d7b8bcdfcbc0f4d77d914d23318622", func := "example.com/admit/admit/zzlaws_schema_b1.FnOpStringDistinct", spec := "fnOpStringDistinct", apart := false }
def FnOpStringDistinctSaid : Prop := fnOpStringDistinctRow.holds Try.pinned (OpenSpec.ofChange fnOpStringDistinctSpec)

/-- ITS FALSE NEIGHBOUR: 'it returns false'. Refute it at one input. -/
def fnOpStringDistinctWrong : ChangeSpec := { name := "fnOpStringDistinct", fn := fun _ => fun
  | [d1, d2] => { results := [.lit (.bool false)], args := [d1, d2] }
  | _ => none }
def FnOpStringDistinctWrongFalsely : Prop := fnOpStringDistinctRow.holds Try.pinned (OpenSpec.ofChange fnOpStringDistinctWrong)

/-- 'zzlaws_schema_b1.FnParserTakeScript': WHATEVER THE INPUT: true; the input reads as it did. -/
def fnParserTakeScriptSpec : ChangeSpec := { name := "fnParserTakeScript", fn := fun _ => fun
  | [d1, d2, d3, d4] => { results := [.lit (.bool true)], args := [d1, d2, d3, d4] }
  | _ => none }
def fnParserTakeScriptRow : OpenClaim := { program := "qxb6601732a", sum := "b5589d98f3b23ae96de6e4a2e295877893d7b8bcdfcbc0f4d77d914d23318622", func := "example.com/admit/admit/zzlaws_schema_b1.FnParserTakeScript", spec := "fnParserTakeScript", apart := false }
def FnParserTakeScriptSaid : Prop := fnParserTakeScriptRow.holds Try.pinned (OpenSpec.ofChange fnParserTakeScriptSpec)

/-- ITS FALSE NEIGHBOUR: 'it returns false'. Refute it at one input. -/
def fnParserTakeScriptWrong : ChangeSpec := { name := "fnParserTakeScript", fn := fun _ => fun
  | [d1, d2, d3, d4] => { results := [.lit (.bool false)], args := [d1, d2, d3, d4] }
  | _ => none }
def FnParserTakeScriptWrongFalsely : Prop := fnParserTakeScriptRow.holds Try.pinned (OpenSpec.ofChange fnParserTakeScriptWrong)

end Rows
end Go.Proofs.Qxb6601732a
