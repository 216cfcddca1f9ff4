import Derived.Test.Qxb6601779aBytesKit
namespace Go.Proofs.Qxb6601779a.fnNumberLenMatchesAutomaton
open Go.ChangeShapes Go.WideShapes Go.ChangeAt Go.RowKit bytesKit
set_option linter.unusedVariables false

theorem ret_int {k : IntKind} {a b : Int} (h : a = b) : Ending.returned (.int k a) = .returned (.int k b) := by rw [h]

/-- The automaton's move, as the Go text has it. -/
def stepZ (s c : Int) : Int :=
  if s = 0 then (if c = 45 then 1 else if c = 48 then 2 else if 48 ≤ c ∧ c ≤ 57 then 3 else -1)
  else if s = 1 then (if c = 48 then 2 else if 48 ≤ c ∧ c ≤ 57 then 3 else -1)
  else if s = 2 then (if c = 46 then 4 else if c = 101 ∨ c = 69 then 6 else -1)
  else if s = 3 then (if 48 ≤ c ∧ c ≤ 57 then 3 else if c = 46 then 4 else if c = 101 ∨ c = 69 then 6 else -1)
  else if s = 4 then (if 48 ≤ c ∧ c ≤ 57 then 5 else -1)
  else if s = 5 then (if 48 ≤ c ∧ c ≤ 57 then 5 else if c = 101 ∨ c = 69 then 6 else -1)
  else if s = 6 then (if c = 43 ∨ c = 45 then 7 else if 48 ≤ c ∧ c ≤ 57 then 8 else -1)
  else if s = 7 then (if 48 ≤ c ∧ c ≤ 57 then 8 else -1)
  else if s = 8 then (if 48 ≤ c ∧ c ≤ 57 then 8 else -1)
  else -1
/-- The move on a digit that is not 0. -/
def digStep (s : Int) : Int := if s = 0 then 3 else if s = 1 then 3 else if s = 2 then -1 else if s = 3 then 3 else if s = 4 then 5 else if s = 5 then 5 else if s = 6 then 8 else if s = 7 then 8 else if s = 8 then 8 else -1
theorem st_digit (c : Int) (h0 : 49 ≤ c) (h1 : c ≤ 57) (s : Int) : stepZ s c = digStep s := by
  have a1 : ¬ c = 45 := by omega
  have a2 : ¬ c = 48 := by omega
  have a3 : 48 ≤ c ∧ c ≤ 57 := by omega
  have a4 : ¬ c = 46 := by omega
  have a5 : ¬ (c = 101 ∨ c = 69) := by omega
  have a6 : ¬ (c = 43 ∨ c = 45) := by omega
  unfold stepZ digStep
  simp only [if_neg a1, if_neg a2, if_pos a3, if_neg a4, if_neg a5, if_neg a6]
theorem st_none (c : Int) (h : ¬ (c = 43 ∨ c = 45 ∨ c = 46 ∨ c = 48 ∨ c = 69 ∨ c = 101)) (hd : ¬ (48 ≤ c ∧ c ≤ 57)) (s : Int) : stepZ s c = -1 := by
  have a1 : ¬ c = 45 := by omega
  have a2 : ¬ c = 48 := by omega
  have a4 : ¬ c = 46 := by omega
  have a5 : ¬ (c = 101 ∨ c = 69) := by omega
  have a6 : ¬ (c = 43 ∨ c = 45) := by omega
  unfold stepZ
  simp only [if_neg a1, if_neg a2, if_neg hd, if_neg a4, if_neg a5, if_neg a6, ite_self]
def accB (s : Int) : Bool := s == 2 || s == 3 || s == 5 || s == 8

set_option maxHeartbeats 8000000 in
theorem f25 (s c : Int) (w : World) (h0 : 0 ≤ s) (h8 : s ≤ 8) (hc : 0 ≤ c) (hc' : c ≤ 255) : Calls Try.prog 25 #[.int .i64 s, .int .u8 c] w fun e w' => e = .returned (.int .i64 (stepZ s c)) ∧ w' = w := by
  have hs : s = 0 ∨ s = 1 ∨ s = 2 ∨ s = 3 ∨ s = 4 ∨ s = 5 ∨ s = 6 ∨ s = 7 ∨ s = 8 := by omega
  clear h0 h8
  by_cases hq : c = 43 ∨ c = 45 ∨ c = 46 ∨ c = 48 ∨ c = 69 ∨ c = 101
  · rcases hs with rfl | rfl | rfl | rfl | rfl | rfl | rfl | rfl | rfl <;> rcases hq with rfl | rfl | rfl | rfl | rfl | rfl
    all_goals
      go_enter Try.func25, Try.ntmps25
      go_wp2
      go_ret
      exact ⟨ret_int (by decide), rfl⟩
  · have b43 : (c == 43) = false := by rw [beq_eq_false_iff_ne]; omega
    have b45 : (c == 45) = false := by rw [beq_eq_false_iff_ne]; omega
    have b46 : (c == 46) = false := by rw [beq_eq_false_iff_ne]; omega
    have b48 : (c == 48) = false := by rw [beq_eq_false_iff_ne]; omega
    have b69 : (c == 69) = false := by rw [beq_eq_false_iff_ne]; omega
    have b101 : (c == 101) = false := by rw [beq_eq_false_iff_ne]; omega
    by_cases hd : 48 ≤ c
    · by_cases hd' : c ≤ 57
      · have Hst : Hid (∀ s, stepZ s c = digStep s) := st_digit c (by omega) hd'
        clear hq
        rcases hs with rfl | rfl | rfl | rfl | rfl | rfl | rfl | rfl | rfl
        all_goals
          go_enter Try.func25, Try.ntmps25
          go_wp2
          go_ret
          rw [Hst.out]
          exact ⟨ret_int (by decide), rfl⟩
      · have Hst : Hid (∀ s, stepZ s c = -1) := st_none c hq (by omega)
        clear hq
        rcases hs with rfl | rfl | rfl | rfl | rfl | rfl | rfl | rfl | rfl
        all_goals
          go_enter Try.func25, Try.ntmps25
          go_wp2
          go_ret
          rw [Hst.out]
          exact ⟨rfl, rfl⟩
    · have Hst : Hid (∀ s, stepZ s c = -1) := st_none c hq (by omega)
      clear hq
      rcases hs with rfl | rfl | rfl | rfl | rfl | rfl | rfl | rfl | rfl
      all_goals
        go_enter Try.func25, Try.ntmps25
        go_wp2
        go_ret
        rw [Hst.out]
        exact ⟨rfl, rfl⟩
theorem f26 (s : Int) (w : World) (h0 : 0 ≤ s) (h8 : s ≤ 8) : Calls Try.prog 26 #[.int .i64 s] w fun e w' => e = .returned (.bool (accB s)) ∧ w' = w := by
  have hs : s = 0 ∨ s = 1 ∨ s = 2 ∨ s = 3 ∨ s = 4 ∨ s = 5 ∨ s = 6 ∨ s = 7 ∨ s = 8 := by omega
  clear h0 h8
  rcases hs with rfl | rfl | rfl | rfl | rfl | rfl | rfl | rfl | rfl
  all_goals
    go_enter Try.func26, Try.ntmps26
    go_wp2
    go_ret
    exact ⟨rfl, rfl⟩
end Go.Proofs.Qxb6601779a.fnNumberLenMatchesAutomaton
