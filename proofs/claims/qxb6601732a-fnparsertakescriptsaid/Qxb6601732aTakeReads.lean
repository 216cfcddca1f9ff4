import Derived.Test.Qxb6601732aTakeSmall
namespace Go.Proofs.Qxb6601732a.fnParserTakeScript
open Go.ChangeShapes Go.WideShapes Go.ChangeAt Go.RowKit Go.Deep
set_option linter.unusedVariables false

set_option maxHeartbeats 1000000 in
theorem f7 (a0 : Option Addr) (len cap : Nat) (tk : Nat → Tk) (a1 a2 a3 : Int) (w : World) (hm : len ≤ 9223372036854775807)
    (h : Hid (len = 0 ∨ ∃ b off, a0 = some ⟨b, off, none⟩ ∧ b < w.heap.size ∧ ∀ i, i < len → TokAt w b off (tk i) i)) :
    Calls Try.prog 7 #[.slice a0 len cap, .int .i64 a1, .int .i64 a2, .int .i64 a3] w fun e w' => SomeBool e ∧ w' = w := by
  by_cases hl : 1048576 < len
  · clear h
    go_enter Try.func7, Try.ntmps7
    go_wp2
    go_ret
    exact ⟨⟨_, rfl⟩, rfl⟩
  go_enter Try.func7, Try.ntmps7
  go_wp2
  go_loop [9, 10] (fun z i => ∃ k : Nat, k ≤ len ∧ i = .int .i64 k ∧ ∃ n : Int, z = .int .i64 n) (fun _ i => len - (intOf i).toNat)
  case atStart => exact ⟨0, Nat.zero_le _, rfl, _, rfl⟩
  case round =>
    obtain ⟨k, hk, rfl, n, rfl⟩ := hrel
    by_cases hlt : k < len
    · rcases h.out with h | ⟨b, off, rfl, hb, hc⟩
      · omega
      obtain ⟨x0, x1, x2, x3⟩ := hc k hlt
      clear hc x0 x2 x3
      go_wp2
      all_goals first
        | (go_ret; exact ⟨⟨_, rfl⟩, rfl⟩)
        | (go_round
           case rel => exact ⟨k + 1, by omega, by go_num, _, rfl⟩
           case measure => simp [intOf]; omega)
    · go_wp2
      go_ret
      exact ⟨⟨_, rfl⟩, rfl⟩

set_option maxHeartbeats 1000000 in
theorem f8 (a0 : Option Addr) (len cap : Nat) (tk : Nat → Tk) (w : World)
    (h : Hid (len = 0 ∨ ∃ b off, a0 = some ⟨b, off, none⟩ ∧ b < w.heap.size ∧ ∀ i, i < len → TokAt w b off (tk i) i)) (hl : len ≤ 65536) :
    Calls Try.prog 8 #[.slice a0 len cap] w fun e w' => SomeBool e ∧ w' = w := by
  by_cases hq : 1048576 < len * 5 * 8
  · clear h
    go_enter Try.func8, Try.ntmps8
    go_wp2
    go_ret
    exact ⟨⟨_, rfl⟩, rfl⟩
  go_enter Try.func8, Try.ntmps8
  go_wp2
  go_loop [3, 4] (fun z i => ∃ k : Nat, k ≤ len ∧ i = .int .i64 k ∧ ∃ n : Int, z = .int .i64 n) (fun _ i => len - (intOf i).toNat)
  case atStart => exact ⟨0, Nat.zero_le _, rfl, _, rfl⟩
  case round =>
    obtain ⟨k, hk, rfl, n, rfl⟩ := hrel
    by_cases hlt : k < len
    · rcases h.out with h | ⟨b, off, rfl, hb, hc⟩
      · omega
      obtain ⟨x0, x1, x2, x3⟩ := hc k hlt
      clear hc x0 x2 x3
      go_wp2
      all_goals first
        | (go_ret; exact ⟨⟨_, rfl⟩, rfl⟩)
        | (go_round
           case rel => exact ⟨k + 1, by omega, by go_num, _, rfl⟩
           case measure => simp [intOf]; omega)
    · go_wp2
      go_ret
      exact ⟨⟨_, rfl⟩, rfl⟩

/-- E is the place of the first end token at or after nx, or -1. -/
def FirstEnd (tk : Nat → Tk) (len nx : Nat) (E : Int) : Prop :=
  (E = -1 ∧ ∀ j, nx ≤ j → j < len → (tk j).k ≠ 0) ∨ ∃ m : Nat, E = m ∧ nx ≤ m ∧ m < len ∧ (tk m).k = 0 ∧ ∀ j, nx ≤ j → j < m → (tk j).k ≠ 0

theorem ret_int {k : IntKind} {a b : Int} (h : a = b) : Ending.returned (.int k a) = .returned (.int k b) := by rw [h]

set_option maxHeartbeats 1000000 in
theorem f9 (b off len cap : Nat) (tk : Nat → Tk) (w : World) (nx : Nat) (hnx : nx < len) (hl : len ≤ 65536) (h : Hid (∀ i, i < len → TokAt w b off (tk i) i)) :
    Calls Try.prog 9 #[.slice (some ⟨b, off, none⟩) len cap, .int .i64 nx] w fun e w' => (∃ E, e = .returned (.int .i64 E) ∧ Hid (FirstEnd tk len nx E)) ∧ w' = w := by
  go_enter Try.func9, Try.ntmps9
  go_wp2
  go_loop [6] (fun i => ∃ k : Nat, nx ≤ k ∧ k ≤ len ∧ i = .int .i64 k ∧ Hid (∀ j, nx ≤ j → j < k → (tk j).k ≠ 0)) (fun i => len - (intOf i).toNat)
  case atStart => exact ⟨nx, Nat.le_refl _, by omega, rfl, fun j h1 h2 => by omega⟩
  case round =>
    obtain ⟨k, hk0, hk, rfl, hno⟩ := hrel
    by_cases hlt : k < len
    · obtain ⟨x0, x1, x2, x3⟩ := h.out k hlt
      clear x1 x2 x3
      by_cases hz : (tk k).k = 0
      · have hz' : ((tk k).k == 0) = true := by rw [beq_iff_eq]; exact hz
        have Hz : Hid ((tk k).k = 0) := hz
        clear hz
        go_wp2
        go_ret
        exact ⟨⟨_, rfl, .inr ⟨k, rfl, hk0, hlt, Hz.out, hno.out⟩⟩, rfl⟩
      · have hz' : ((tk k).k == 0) = false := by rw [beq_eq_false_iff_ne]; exact hz
        have Hn : Hid (∀ j, nx ≤ j → j < k + 1 → (tk j).k ≠ 0) := fun j h1 h2 => by
          by_cases hj : j < k
          · exact hno.out j h1 hj
          · have : j = k := by omega
            rw [this]; exact hz
        clear hz hno
        go_wp2
        go_round
        case rel => exact ⟨k + 1, by omega, by omega, by go_num, Hn⟩
        case measure => simp [intOf]; omega
    · go_wp2
      go_ret
      exact ⟨⟨_, rfl, .inl ⟨rfl, fun j h1 h2 => hno.out j h1 (by omega)⟩⟩, rfl⟩
end Go.Proofs.Qxb6601732a.fnParserTakeScript
