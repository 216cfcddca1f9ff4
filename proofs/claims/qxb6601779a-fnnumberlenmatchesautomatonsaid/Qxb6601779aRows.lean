/-
  No cell of these rows narrows 'for every input' (looked for: loops, veiled, ifaces, maps, wideKeys, modest, calm, conditions, laid).
  DERIVED. THE GIVEN ROWS OF THIS SEAT. 6 by the template 'for every input the law returns true; each argument reads behind the call as it read before'; 0 by the template 'total and deterministic' (their statements: Qxb6601779aTotals.lean).
  GIVEN WITH THE SEED: the statements are not yours to turn. If you find one false, say at which input.
  Laid BY PROGRAM, IN A SANDBOX (cutbox-rows.mjs): the forced cells as the released guide's own fill.sh prints them over the translation 9eb26f469f2ed0c5… (all of the seat's roots in one cut). By AI agents, Wed Nov 11 2026. No macro, syntax, notation, axiom, sorry.
-/
import Derived.Test.Qxb6601779aChecked
import GoSem.Claim
import GoSem.ClaimJoined
import GoSem.ClaimMapViews
import Derived.JoinedTies
import Derived.KernelRfl
namespace Go.Proofs.Qxb6601779a
/- THE CELL 'sum', in the pinned program and in every row, IS THE sha256 OF THE DUMP (.gsa) THAT Qxb6601779aProg.lean LOADS. Nothing in Lean hashes anything: it is a label: what it is worth is what the hold of that sum in a sandbox is worth. -/
noncomputable def Try.pinned : Pinned := { name := "qxb6601779a", sum := "9eb26f469f2ed0c59b53d8da538d01c453eaa543f396c30c946050b52beaaa75", checked := Try.checked }
namespace Rows
def none {H : Type} : Left H := { results := [], args := [] }

/-- 'zzlaws_internal_wire_b1.FnNumberLenMatchesAutomaton': WHATEVER THE INPUT: true; the input reads as it did. -/
def fnNumberLenMatchesAutomatonSpec : ChangeSpec := { name := "fnNumberLenMatchesAutomaton", fn := fun _ => fun
  | [d] => { results := [.lit (.bool true)], args := [d] }
  | _ => none }
def fnNumberLenMatchesAutomatonRow : OpenClaim := { program := "qxb6601779a", sum := "9eb26f469f2ed0c59b53d8da538d01c453eaa543f396c30c946050b52beaaa75", func := "example.com/jobwire/jobwire/zzlaws_internal_wire_b1.FnNumberLenMatchesAutomaton", spec := "fnNumberLenMatchesAutomaton", apart := false }
def FnNumberLenMatchesAutomatonSaid : Prop := fnNumberLenMatchesAutomatonRow.holds Try.pinned (OpenSpec.ofChange fnNumberLenMatchesAutomatonSpec)

/-- ITS FALSE NEIGHBOUR: 'it returns false'. Refute it at one input. -/
def fnNumberLenMatchesAutomatonWrong : ChangeSpec := { name := "fnNumberLenMatchesAutomaton", fn := fun _ => fun
  | [d] => { results := [.lit (.bool false)], args := [d] }
  | _ => none }
def FnNumberLenMatchesAutomatonWrongFalsely : Prop := fnNumberLenMatchesAutomatonRow.holds Try.pinned (OpenSpec.ofChange fnNumberLenMatchesAutomatonWrong)

/-- 'zzlaws_internal_wire_b1.FnNumberLenPrefixIsWholeNumber': WHATEVER THE INPUT: true; the input reads as it did. -/
def fnNumberLenPrefixIsWholeNumberSpec : ChangeSpec := { name := "fnNumberLenPrefixIsWholeNumber", fn := fun _ => fun
  | [d] => { results := [.lit (.bool true)], args := [d] }
  | _ => none }
def fnNumberLenPrefixIsWholeNumberRow : OpenClaim := { program := "qxb6601779a", sum := "9eb26f469f2ed0c59b53d8da538d01c453eaa543f396c30c946050b52beaaa75", func := "example.com/jobwire/jobwire/zzlaws_internal_wire_b1.FnNumberLenPrefixIsWholeNumber", spec := "fnNumberLenPrefixIsWholeNumber", apart := false }
def FnNumberLenPrefixIsWholeNumberSaid : Prop := fnNumberLenPrefixIsWholeNumberRow.holds Try.pinned (OpenSpec.ofChange fnNumberLenPrefixIsWholeNumberSpec)

/-- ITS FALSE NEIGHBOUR: 'it returns false'. Refute it at one input. -/
def fnNumberLenPrefixIsWholeNumberWrong : ChangeSpec := { name := "fnNumberLenPrefixIsWholeNumber", fn := fun _ => fun
  | [d] => { results := [.lit (.bool false)], args := [d] }
  | _ => none }
def FnNumberLenPrefixIsWholeNumberWrongFalsely : Prop := fnNumberLenPrefixIsWholeNumberRow.holds Try.pinned (OpenSpec.ofChange fnNumberLenPrefixIsWholeNumberWrong)

/-- 'zzlaws_internal_wire_b1.FnNumberLenMinusAddsOne': WHATEVER THE INPUT: true; the input reads as it did. -/
def fnNumberLenMinusAddsOneSpec : ChangeSpec := { name := "fnNumberLenMinusAddsOne", fn := fun _ => fun
  | [d] => { results := [.lit (.bool true)], args := [d] }
  | _ => none }
def fnNumberLenMinusAddsOneRow : OpenClaim := { program := "qxb6601779a", sum := "9eb26f469f2ed0c59b53d8da538d01c453eaa543f396c30c946050b52beaaa75", func := "example.com/jobwire/jobwire/zzlaws_internal_wire_b1.FnNumberLenMinusAddsOne", spec := "fnNumberLenMinusAddsOne", apart := false }
def FnNumberLenMinusAddsOneSaid : Prop := fnNumberLenMinusAddsOneRow.holds Try.pinned (OpenSpec.ofChange fnNumberLenMinusAddsOneSpec)

/-- ITS FALSE NEIGHBOUR: 'it returns false'. Refute it at one input. -/
def fnNumberLenMinusAddsOneWrong : ChangeSpec := { name := "fnNumberLenMinusAddsOne", fn := fun _ => fun
  | [d] => { results := [.lit (.bool false)], args := [d] }
  | _ => none }
def FnNumberLenMinusAddsOneWrongFalsely : Prop := fnNumberLenMinusAddsOneRow.holds Try.pinned (OpenSpec.ofChange fnNumberLenMinusAddsOneWrong)

/-- 'zzlaws_internal_wire_b1.FnEscapedRuneMatchesModel': WHATEVER THE INPUT: true; the input reads as it did. -/
def fnEscapedRuneMatchesModelSpec : ChangeSpec := { name := "fnEscapedRuneMatchesModel", fn := fun _ => fun
  | [d] => { results := [.lit (.bool true)], args := [d] }
  | _ => none }
def fnEscapedRuneMatchesModelRow : OpenClaim := { program := "qxb6601779a", sum := "9eb26f469f2ed0c59b53d8da538d01c453eaa543f396c30c946050b52beaaa75", func := "example.com/jobwire/jobwire/zzlaws_internal_wire_b1.FnEscapedRuneMatchesModel", spec := "fnEscapedRuneMatchesModel", apart := false }
def FnEscapedRuneMatchesModelSaid : Prop := fnEscapedRuneMatchesModelRow.holds Try.pinned (OpenSpec.ofChange fnEscapedRuneMatchesModelSpec)

/-- ITS FALSE NEIGHBOUR: 'it returns false'. Refute it at one input. -/
def fnEscapedRuneMatchesModelWrong : ChangeSpec := { name := "fnEscapedRuneMatchesModel", fn := fun _ => fun
  | [d] => { results := [.lit (.bool false)], args := [d] }
  | _ => none }
def FnEscapedRuneMatchesModelWrongFalsely : Prop := fnEscapedRuneMatchesModelRow.holds Try.pinned (OpenSpec.ofChange fnEscapedRuneMatchesModelWrong)

/-- 'zzlaws_internal_wire_b1.FnEscapedRuneRoundTrip': WHATEVER THE INPUT: true; the input reads as it did. -/
def fnEscapedRuneRoundTripSpec : ChangeSpec := { name := "fnEscapedRuneRoundTrip", fn := fun _ => fun
  | [d1, d2, d3] => { results := [.lit (.bool true)], args := [d1, d2, d3] }
  | _ => none }
def fnEscapedRuneRoundTripRow : OpenClaim := { program := "qxb6601779a", sum := "9eb26f469f2ed0c59b53d8da538d01c453eaa543f396c30c946050b52beaaa75", func := "example.com/jobwire/jobwire/zzlaws_internal_wire_b1.FnEscapedRuneRoundTrip", spec := "fnEscapedRuneRoundTrip", apart := false }
def FnEscapedRuneRoundTripSaid : Prop := fnEscapedRuneRoundTripRow.holds Try.pinned (OpenSpec.ofChange fnEscapedRuneRoundTripSpec)

/-- ITS FALSE NEIGHBOUR: 'it returns false'. Refute it at one input. -/
def fnEscapedRuneRoundTripWrong : ChangeSpec := { name := "fnEscapedRuneRoundTrip", fn := fun _ => fun
  | [d1, d2, d3] => { results := [.lit (.bool false)], args := [d1, d2, d3] }
  | _ => none }
def FnEscapedRuneRoundTripWrongFalsely : Prop := fnEscapedRuneRoundTripRow.holds Try.pinned (OpenSpec.ofChange fnEscapedRuneRoundTripWrong)

/-- 'zzlaws_internal_wire_b1.FnBatchCountMoveMatchesModel': WHATEVER THE INPUT: true; the input reads as it did. -/
def fnBatchCountMoveMatchesModelSpec : ChangeSpec := { name := "fnBatchCountMoveMatchesModel", fn := fun _ => fun
  | [d1, d2, d3, d4, d5, d6, d7, d8, d9, d10] => { results := [.lit (.bool true)], args := [d1, d2, d3, d4, d5, d6, d7, d8, d9, d10] }
  | _ => none }
def fnBatchCountMoveMatchesModelRow : OpenClaim := { program := "qxb6601779a", sum := "9eb26f469f2ed0c59b53d8da538d01c453eaa543f396c30c946050b52beaaa75", func := "example.com/jobwire/jobwire/zzlaws_internal_wire_b1.FnBatchCountMoveMatchesModel", spec := "fnBatchCountMoveMatchesModel", apart := false }
def FnBatchCountMoveMatchesModelSaid : Prop := fnBatchCountMoveMatchesModelRow.holds Try.pinned (OpenSpec.ofChange fnBatchCountMoveMatchesModelSpec)

/-- ITS FALSE NEIGHBOUR: 'it returns false'. Refute it at one input. -/
def fnBatchCountMoveMatchesModelWrong : ChangeSpec := { name := "fnBatchCountMoveMatchesModel", fn := fun _ => fun
  | [d1, d2, d3, d4, d5, d6, d7, d8, d9, d10] => { results := [.lit (.bool false)], args := [d1, d2, d3, d4, d5, d6, d7, d8, d9, d10] }
  | _ => none }
def FnBatchCountMoveMatchesModelWrongFalsely : Prop := fnBatchCountMoveMatchesModelRow.holds Try.pinned (OpenSpec.ofChange fnBatchCountMoveMatchesModelWrong)

end Rows
end Go.Proofs.Qxb6601779a
