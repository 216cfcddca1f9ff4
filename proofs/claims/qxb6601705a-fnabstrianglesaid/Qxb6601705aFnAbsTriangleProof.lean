/-
  A proof of 'Rows.FnAbsTriangleSaid'. The frame ('lifted', 'over') is the one that proof-skeleton.mjs wrote for this function; the walk is ours.
-/
import Derived.Test.Qxb6601705aRows
import Derived.WalkKit
import Derived.ProofKit
import Derived.OpenShut
import Derived.ShutString
namespace Go.Proofs.Qxb6601705a.fnAbsTriangle
open Go.ChangeShapes Go.WideShapes Go.ChangeAt Go.RowKit
open Go.ChangeMaps (open_string shut_string)
set_option linter.unusedVariables false      -- a walk need not use every 'w<i>' (that an integer argument fits its kind)

theorem own : ownKnob Try.prog.godebug = none := by kernel_rfl

/-! ### STEP 1: the walk, parted by the signs of the two numbers and of their sum -/
theorem ret_true {b : Bool} (h : b = true) : Ending.returned (.bool b) = .returned (.bool true) := by rw [h]
theorem over_pos {a b : Int} (ha : a ≤ 9223372036854775807) (hb : b ≤ 9223372036854775807) (h : 9223372036854775807 < a + b) : wrap64 (a + b) < 0 := by unfold wrap64; omega
theorem over_neg {a b : Int} (ha : -9223372036854775808 ≤ a) (hb : -9223372036854775808 ≤ b) (h : a + b < -9223372036854775808) : 0 ≤ wrap64 (a + b) := by unfold wrap64; omega

set_option maxHeartbeats 2000000 in
theorem walk (a0 : Int) (a1 : Int) (w0 : (Lit.int .i64 a0).wf = true) (w1 : (Lit.int .i64 a1).wf = true) (w : World) :
    Calls Try.prog 5 #[.int .i64 a0, .int .i64 a1] w fun e w' => e = .returned (.bool true) ∧ Grown w w' := by
  have hb := bounds_i64 w0
  have hc := bounds_i64 w1
  clear w0 w1
  by_cases hm : a0 = -9223372036854775808
  · have hm' : (a0 == -9223372036854775808) = true := by rw [beq_iff_eq]; exact hm
    clear hm
    go_enter Try.func5, Try.ntmps5
    go_wp2
    go_ret
    exact ⟨rfl, Grown.refl _⟩
  have hm' : (a0 == -9223372036854775808) = false := by rw [beq_eq_false_iff_ne]; exact hm
  have hl : -9223372036854775808 < a0 := by omega
  clear hm
  by_cases hm1 : a1 = -9223372036854775808
  · have hm1' : (a1 == -9223372036854775808) = true := by rw [beq_iff_eq]; exact hm1
    clear hm1
    go_enter Try.func5, Try.ntmps5
    go_wp2
    go_ret
    exact ⟨rfl, Grown.refl _⟩
  have hm1' : (a1 == -9223372036854775808) = false := by rw [beq_eq_false_iff_ne]; exact hm1
  have hl1 : -9223372036854775808 < a1 := by omega
  clear hm1
  by_cases hp : 9223372036854775807 < a0 + a1
  · have ho := over_pos (by omega) (by omega) hp
    have h0 : 0 < a0 := by omega
    have h1 : 0 < a1 := by omega
    go_enter Try.func5, Try.ntmps5
    go_wp2
    go_ret
    exact ⟨rfl, Grown.refl _⟩
  by_cases hn : a0 + a1 < -9223372036854775808
  · have ho := over_neg (by omega) (by omega) hn
    have h0 : a0 < 0 := by omega
    have h1 : a1 < 0 := by omega
    go_enter Try.func5, Try.ntmps5
    go_wp2
    go_ret
    exact ⟨rfl, Grown.refl _⟩
  by_cases he : a0 + a1 = -9223372036854775808
  · have he' : (a0 + a1 == -9223372036854775808) = true := by rw [beq_iff_eq]; exact he
    have h0 : a0 < 0 := by omega
    have h1 : a1 < 0 := by omega
    have hs : a0 + a1 < 0 := by omega
    clear he
    go_enter Try.func5, Try.ntmps5
    go_wp2
    go_ret
    exact ⟨rfl, Grown.refl _⟩
  have he' : (a0 + a1 == -9223372036854775808) = false := by rw [beq_eq_false_iff_ne]; exact he
  have hg : -9223372036854775808 < a0 + a1 := by omega
  clear he
  by_cases h0 : a0 < 0 <;> by_cases h1 : a1 < 0 <;> by_cases hs : a0 + a1 < 0
  all_goals try omega
  all_goals
    go_enter Try.func5, Try.ntmps5
    go_wp2
    all_goals (go_ret; refine ⟨ret_true ?_, Grown.refl _⟩)
    all_goals first | (simp; done) | (simp; omega) | (rw [beq_iff_eq, Bool.eq_iff_iff]; simp; omega)

/-! ### THE ROW's STEP: WRITTEN OUT: LEAVE IT -/
set_option maxRecDepth 100000 in
theorem lifted (os : Os) (started : os.Started) (H : Type) (enc : TypeId × Value → H) :
    ReturnsInHanded {} Try.checked os 5 .any (Rows.fnAbsTriangleSpec.pre6 enc Try.prog Try.f5 Rows.fnAbsTriangleRow.domain false) (Rows.fnAbsTriangleSpec.post enc Try.prog Try.f5 false true false false) := by
  refine returnsInHanded_of_change (C := Try.checked) own started (by kernel_rfl) Try.func5
    (ChangeSpec.witness6 (enc := enc) (C := Try.checked) false ⟨#[], #[.int .i64 0, .int .i64 0], []⟩ 8 (by kernel_rfl) (by kernel_rfl) (by kernel_rfl) (by kernel_rfl)) ?_
  intro W base args ds gs before hval0 hW hcnd _
  have hval : ∀ (j : Nat) t v, Try.f5.params[j]? = some t → args[j]? = some v → Value.okWide Try.prog W .any base t v := hval0
  have hW' := hW
  obtain ⟨p, q, hA0, hV, rfl, hfz, hnd⟩ := hW
  have hA : DataW.TrodAll enc Try.prog W 0 (fun _ => true) true Try.f5.params.toList args.toList ds p := hA0
  rw [Try.params5] at hA hval
  obtain ⟨v0, vs0, d0, ds0, p0, q0, hargs, rfl, rfl, h0, r0⟩ := trodAll_cons hA
  obtain ⟨v1, vs1, d1, ds1, p1, q1, rfl, rfl, rfl, h1, r1⟩ := trodAll_cons r0
  obtain ⟨rfl, rfl, rfl⟩ := trodAll_nil r1
  obtain rfl : args = #[v0, v1] := by cases args; simp_all
  obtain ⟨rfl, rfl⟩ := trodVars_none hV
  obtain ⟨a0, rfl, rfl, rfl, w0⟩ := open_int Try.underlying2 (hval 0 2 v0 rfl rfl) h0
  obtain ⟨a1, rfl, rfl, rfl, w1⟩ := open_int Try.underlying2 (hval 1 2 v1 rfl rfl) h1
  clear hA0 hval0
  simp only [List.append_nil] at hW'
  refine (walk a0 a1 w0 w1 W).mono fun e W' ⟨he, hg⟩ => ?_
  subst he
  exact ⟨_, rfl, post_of_same (pa := []) (pv := []) hW' (fun _ _ _ => (trodAll_cons_mk (shut_bool Try.underlying4 _) trodAll_mk0)) (fun sp _ => (trodAll_cons_mk (shut_int Try.underlying2 w0) (trodAll_cons_mk (shut_int Try.underlying2 w1) trodAll_mk0))) (fun _ _ => rfl) rfl
    (hg.frame _) hg.2.1 (ok_one (by kernel_rfl) rfl (okWide_bool_mk Try.underlying4 _))⟩

theorem over : Rows.fnAbsTriangleRow.holds Try.pinned (OpenSpec.ofChange Rows.fnAbsTriangleSpec) :=
  OpenClaim.holds_of_wide 5 Try.f5 rfl rfl rfl rfl rfl rfl rfl ⟨rfl, rfl, rfl, rfl, rfl⟩ rfl rfl rfl rfl rfl (by kernel_rfl) Try.func5 (by kernel_rfl)
    (of_decide_eq_true (by kernel_rfl)) (by unfold Func.isWrapper; first | (rw [if_pos (by decide +kernel)]; kernel_rfl) | (rw [if_neg (by decide +kernel)]; exact ⟨rfl, rfl⟩))
    (fun os started H enc _ => lifted os started H enc)

/-- ████ THE STATEMENT ████ -/
theorem proved : Rows.FnAbsTriangleSaid :=
  over
end Go.Proofs.Qxb6601705a.fnAbsTriangle
