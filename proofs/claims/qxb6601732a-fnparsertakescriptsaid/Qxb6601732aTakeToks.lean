/-
  For 'Rows.FnParserTakeScriptSaid': a slice of tokens that came in, opened into its cells.
-/
import Derived.Test.Qxb6601732aRows
import Derived.WalkKit
import Derived.ProofKit
import Derived.OpenShut
import Derived.ShutString
import Derived.ChangeOld
import Derived.Below
import Derived.Deep.Slices
import Derived.ChangeSame
namespace Go.Proofs.Qxb6601732a.fnParserTakeScript
open Go.ChangeShapes Go.WideShapes Go.ChangeAt Go.RowKit Go.Deep
open Go.ChangeMaps (open_string shut_string)
set_option linter.unusedVariables false

theorem own : ownKnob Try.prog.godebug = none := by kernel_rfl
theorem laidOut : laidOutB Try.prog = true := by kernel_rfl
theorem cells40 : Try.prog.cellsOf 40 = 4 := by kernel_rfl
theorem cells3 : Try.prog.cellsOf 3 = 1 := by kernel_rfl
theorem cells9 : Try.prog.cellsOf 9 = 1 := by kernel_rfl

/-- One token spelled out. -/
structure Tk where
  k : Int
  t : ByteArray
  l : Int
  c : Int

/-- The four cells of element i of the tokens that lie from ⟨b, off⟩ on. -/
def TokAt (w : World) (b off : Nat) (x : Tk) (i : Nat) : Prop :=
  w.cell? ⟨b, off + i * 4, none⟩ = some (.int .i64 x.k) ∧ w.cell? ⟨b, off + i * 4 + 1, none⟩ = some (.string x.t) ∧
  w.cell? ⟨b, off + i * 4 + 2, none⟩ = some (.int .i64 x.l) ∧ w.cell? ⟨b, off + i * 4 + 3, none⟩ = some (.int .i64 x.c)

/-- The callee returned a bool, whichever. -/
def SomeBool (e : Ending) : Prop := ∃ b, e = .returned (.bool b)

/-- WHAT THE WALK IS TOLD OF THE SLICE OF TOKENS THAT CAME IN: it is empty; or it leads to a row of tokens. -/
def IsToks (w : World) (a : Option Addr) (len : Nat) (tk : Nat → Tk) : Prop :=
  len ≤ maxLen ∧ (len = 0 ∨ ∃ b off, a = some ⟨b, off, none⟩ ∧ b < w.heap.size ∧ ∀ i, i < len → TokAt w b off (tk i) i)

theorem open_toks {H : Type} {enc : TypeId × Value → H} {w : World} {spare : Nat → Bool} {held : Bool} {fuel : Nat} {a : Option Addr} {len cap : Nat} {x : DataW H × List MemPlace}
    (h : DataW.trod enc Try.prog w 0 spare held fuel 26 [.slice a len cap] = some x) : ∃ tk, IsToks w a len tk := by
  rcases open_slice Try.underlying26 h with ⟨h0, _⟩ | ⟨a', len', cap', m, n, D, Pl, hcs, hb, hl, hm, hmm, rfl, hx⟩
  · simp at h0
    obtain ⟨rfl, rfl, rfl⟩ := h0
    exact ⟨fun _ => ⟨0, ByteArray.empty, 0, 0⟩, by omega, .inl rfl⟩
  · simp at hcs
    obtain ⟨rfl, rfl, rfl⟩ := hcs
    have hlm : len ≤ m := by rw [hmm]; split <;> omega
    by_cases hz : len = 0
    · exact ⟨fun _ => ⟨0, ByteArray.empty, 0, 0⟩, by omega, .inl hz⟩
    have each : ∀ i, i < len → ∃ q : Tk, w.cell? (a'.add (i * 4)) = some (.int .i64 q.k) ∧ w.cell? (a'.add (i * 4 + 1)) = some (.string q.t) ∧
        w.cell? (a'.add (i * 4 + 2)) = some (.int .i64 q.l) ∧ w.cell? (a'.add (i * 4 + 3)) = some (.int .i64 q.c) := by
      intro i hi
      obtain ⟨cs', h1, h2⟩ := hx i (by omega)
      rw [cells40] at h1
      obtain ⟨_, hlen, hcell⟩ := World.cells?_some h1
      obtain ⟨xs, k, hk, hxy, _, hxl, hf⟩ := DataW.trod_struct Try.underlying40 h2
      match cs', hlen with
      | [v0, v1, v2, v3], _ =>
        have g0 := hf 0 _ rfl
        have g1 := hf 1 _ rfl
        have g2 := hf 2 _ rfl
        have g3 := hf 3 _ rfl
        match xs, hxl with
        | [y0, y1, y2, y3], _ =>
          simp [cells3, cells9] at g0 g1 g2 g3
          obtain ⟨k0, e0, _⟩ := DataW.trod_int Try.underlying3 g0
          obtain ⟨k1, e1, _⟩ := DataW.trod_string Try.underlying9 g1
          obtain ⟨k2, e2, _⟩ := DataW.trod_int Try.underlying3 g2
          obtain ⟨k3, e3, _⟩ := DataW.trod_int Try.underlying3 g3
          simp at e0 e1 e2 e3
          subst e0 e1 e2 e3
          have c0 := hcell 0 (by omega)
          have c1 := hcell 1 (by omega)
          have c2 := hcell 2 (by omega)
          have c3 := hcell 3 (by omega)
          rw [add_add] at c0 c1 c2 c3
          exact ⟨⟨k0, k1, k2, k3⟩, by simpa using c0, by simpa using c1, by simpa using c2, by simpa using c3⟩
    haveI : Inhabited Tk := ⟨⟨0, ByteArray.empty, 0, 0⟩⟩
    obtain ⟨q, hq⟩ := choose_lt each
    obtain ⟨b, off, spot⟩ := a'
    have hspot : spot = none := by simpa [Addr.add] using World.cell?_spot (hq 0 (by omega)).1
    subst hspot
    refine ⟨q, by omega, .inr ⟨b, off, rfl, ?_, ?_⟩⟩
    · have := World.block_lt_of_cell? w _ (hq 0 (by omega)).1
      rw [add_plain] at this
      exact this
    · intro i hi
      have := hq i hi
      simp only [add_plain, ← Nat.add_assoc] at this
      exact this

end Go.Proofs.Qxb6601732a.fnParserTakeScript
