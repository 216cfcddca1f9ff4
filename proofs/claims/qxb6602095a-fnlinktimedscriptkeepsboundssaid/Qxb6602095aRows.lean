/-
  No cell of these rows narrows 'for every input' (looked for: loops, veiled, ifaces, maps, wideKeys, modest, calm, conditions, laid).
  DERIVED. THE GIVEN ROWS OF THIS SEAT. 2 by the template 'for every input the law returns true; each argument reads behind the call as it read before'; 0 by the template 'total and deterministic' (their statements: Qxb6602095aTotals.lean).
  GIVEN WITH THE SEED: the statements are not yours to turn. If you find one false, say at which input.
  Laid BY PROGRAM, IN A SANDBOX (cutbox-rows.mjs): the forced cells as the released guide's own fill.sh prints them over the translation 61cd4a01a1455be6… (all of the seat's roots in one cut). By AI agents, Wed Nov 11 2026. No macro, syntax, notation, axiom, sorry.
-/
import Derived.Test.Qxb6602095aChecked
import GoSem.Claim
import GoSem.ClaimJoined
import GoSem.ClaimMapViews
import Derived.JoinedTies
import Derived.KernelRfl
namespace Go.Proofs.Qxb6602095a
/- THE CELL 'sum', in the pinned program and in every row, IS THE sha256 OF THE DUMP (.gsa) THAT Qxb6602095aProg.lean LOADS. Nothing in Lean hashes anything: it is a label: what it is worth is what the hold of that sum in a sandbox is worth. -/
noncomputable def Try.pinned : Pinned := { name := "qxb6602095a", sum := "61cd4a01a1455be6331d2c08a92aa5fdb30b50b2ee76de4d4314f162621d92c9", checked := Try.checked }
namespace Rows
def none {H : Type} : Left H := { results := [], args := [] }

/-- 'zzlaws_root_b1.FnLinkTimedScriptKeepsBounds': WHATEVER THE INPUT: true; the input reads as it did. -/
def fnLinkTimedScriptKeepsBoundsSpec : ChangeSpec := { name := "fnLinkTimedScriptKeepsBounds", fn := fun _ => fun
  | [d1, d2] => { results := [.lit (.bool true)], args := [d1, d2] }
  | _ => none }
def fnLinkTimedScriptKeepsBoundsRow : OpenClaim := { program := "qxb6602095a", sum := "61cd4a01a1455be6331d2c08a92aa5fdb30b50b2ee76de4d4314f162621d92c9", func := "example.com/lockstep/lockstep/zzlaws_root_b1.FnLinkTimedScriptKeepsBounds", spec := "fnLinkTimedScriptKeepsBounds", apart := false }
def FnLinkTimedScriptKeepsBoundsSaid : Prop := fnLinkTimedScriptKeepsBoundsRow.holds Try.pinned (OpenSpec.ofChange fnLinkTimedScriptKeepsBoundsSpec)

/-- ITS FALSE NEIGHBOUR: 'it returns false'. Refute it at one input. -/
def fnLinkTimedScriptKeepsBoundsWrong : ChangeSpec := { name := "fnLinkTimedScriptKeepsBounds", fn := fun _ => fun
  | [d1, d2] => { results := [.lit (.bool false)], args := [d1, d2] }
  | _ => none }
def FnLinkTimedScriptKeepsBoundsWrongFalsely : Prop := fnLinkTimedScriptKeepsBoundsRow.holds Try.pinned (OpenSpec.ofChange fnLinkTimedScriptKeepsBoundsWrong)

/-- 'zzlaws_root_b1.FnLinkTimedSoonerFullerNeverAsksLess': WHATEVER THE INPUT: true; the input reads as it did. -/
def fnLinkTimedSoonerFullerNeverAsksLessSpec : ChangeSpec := { name := "fnLinkTimedSoonerFullerNeverAsksLess", fn := fun _ => fun
  | [d1, d2, d3, d4, d5, d6] => { results := [.lit (.bool true)], args := [d1, d2, d3, d4, d5, d6] }
  | _ => none }
def fnLinkTimedSoonerFullerNeverAsksLessRow : OpenClaim := { program := "qxb6602095a", sum := "61cd4a01a1455be6331d2c08a92aa5fdb30b50b2ee76de4d4314f162621d92c9", func := "example.com/lockstep/lockstep/zzlaws_root_b1.FnLinkTimedSoonerFullerNeverAsksLess", spec := "fnLinkTimedSoonerFullerNeverAsksLess", apart := false }
def FnLinkTimedSoonerFullerNeverAsksLessSaid : Prop := fnLinkTimedSoonerFullerNeverAsksLessRow.holds Try.pinned (OpenSpec.ofChange fnLinkTimedSoonerFullerNeverAsksLessSpec)

/-- ITS FALSE NEIGHBOUR: 'it returns false'. Refute it at one input. -/
def fnLinkTimedSoonerFullerNeverAsksLessWrong : ChangeSpec := { name := "fnLinkTimedSoonerFullerNeverAsksLess", fn := fun _ => fun
  | [d1, d2, d3, d4, d5, d6] => { results := [.lit (.bool false)], args := [d1, d2, d3, d4, d5, d6] }
  | _ => none }
def FnLinkTimedSoonerFullerNeverAsksLessWrongFalsely : Prop := fnLinkTimedSoonerFullerNeverAsksLessRow.holds Try.pinned (OpenSpec.ofChange fnLinkTimedSoonerFullerNeverAsksLessWrong)

end Rows
end Go.Proofs.Qxb6602095a
