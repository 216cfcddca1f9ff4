import Derived.Test.Qxb6601779aBytesKit
namespace Go.Proofs.Qxb6601779a.fnEscapedRuneRoundTrip
open Go.ChangeShapes Go.WideShapes Go.ChangeAt Go.RowKit bytesKit
set_option linter.unusedVariables false

theorem ofInt32 (a : Nat) (h : a < 2147483648) : (BitVec.ofInt 32 (a : Int)).toNat = a := by
  rw [BitVec.toNat_ofInt]
  show ((a : Int) % 4294967296).toNat = a
  omega
theorem wrapi32 (n : Nat) (h : n < 2147483648) : IntKind.i32.wrap (n : Int) = n := by
  rw [IntKind.wrap_i32]
  omega
theorem or_i32 (x d : Int) (h0 : 0 ≤ x) (h1 : x ≤ 4095) (h2 : 0 ≤ d) (h3 : d < 16) : bits .or .i32 (x * 16) d = x * 16 + d := by
  obtain ⟨X, rfl⟩ := Int.eq_ofNat_of_zero_le h0
  obtain ⟨D, rfl⟩ := Int.eq_ofNat_of_zero_le h2
  have e : ((X : Int) * 16) = ((X * 16 : Nat) : Int) := by omega
  rw [e]
  show IntKind.i32.wrap ((BitVec.ofInt 32 ((X * 16 : Nat) : Int) ||| BitVec.ofInt 32 (D : Int)).toNat : Int) = _
  have h : X * 16 ||| D = X * 16 + D := by
    have := Nat.two_pow_add_eq_or_of_lt (i := 4) (b := D) (by omega) X
    rw [show X * 16 = 2 ^ 4 * X from by omega, this]
  rw [BitVec.toNat_or, ofInt32 _ (by omega), ofInt32 _ (by omega), h, wrapi32 _ (by omega)]
  omega
theorem and_i32 (x : Int) (h0 : 0 ≤ x) (h1 : x < 2147483648) : bits .and .i32 x 15 = x % 16 := by
  obtain ⟨X, rfl⟩ := Int.eq_ofNat_of_zero_le h0
  show IntKind.i32.wrap ((BitVec.ofInt 32 (X : Int) &&& BitVec.ofInt 32 ((15 : Nat) : Int)).toNat : Int) = _
  have h : X &&& 15 = X % 16 := Nat.and_two_pow_sub_one_eq_mod X 4
  rw [BitVec.toNat_and, ofInt32 _ (by omega), ofInt32 _ (by omega), h, wrapi32 _ (by omega)]
  omega
theorem esc_short (a : Option Addr) (len cap : Nat) (w : World) (h : len < 6) : Calls Try.prog 27 #[.slice a len cap] w fun e w' => e = .returned (.int .i32 (-1)) ∧ w' = w := by
  go_enter Try.func27, Try.ntmps27
  go_wp2
  go_ret
  exact ⟨rfl, rfl⟩

theorem esc_not (g off len cap : Nat) (w : World) (h : 6 ≤ len) (c1 : Int) (h0 : w.cell? ⟨g, off, none⟩ = some (.int .u8 92)) (h1 : w.cell? ⟨g, off + 1, none⟩ = some (.int .u8 c1)) (hc : (c1 != 117) = true) : Calls Try.prog 27 #[.slice (some ⟨g, off, none⟩) len cap] w fun e w' => e = .returned (.int .i32 (-1)) ∧ w' = w := by
  go_enter Try.func27, Try.ntmps27
  go_wp2
  go_ret
  exact ⟨rfl, rfl⟩

/-- d is the value of the hex digit c. -/
def Hexv (c d : Int) : Prop := (48 ≤ c ∧ c ≤ 57 ∧ d = c - 48) ∨ (97 ≤ c ∧ c ≤ 102 ∧ d = c - 87) ∨ (65 ≤ c ∧ c ≤ 70 ∧ d = c - 55)
def acc (D : Nat → Int) : Nat → Int
  | 0 => 0
  | k + 1 => acc D k * 16 + D k

set_option maxHeartbeats 1000000 in
theorem esc_val (g off len cap : Nat) (w : World) (h : 6 ≤ len) (hlc : len ≤ cap) (hcap : cap ≤ 2000000) (C D : Nat → Int) (h0 : w.cell? ⟨g, off, none⟩ = some (.int .u8 92)) (h1 : w.cell? ⟨g, off + 1, none⟩ = some (.int .u8 117))
    (hC : Hid (∀ k, k < 4 → w.cell? ⟨g, off + 2 + k, none⟩ = some (.int .u8 (C k)))) (hD : Hid (∀ k, k < 4 → Hexv (C k) (D k))) (hA : Hid (∀ k, k < 4 → 0 ≤ acc D k ∧ acc D k ≤ 4095)) : Calls Try.prog 27 #[.slice (some ⟨g, off, none⟩) len cap] w fun e w' => e = .returned (.int .i32 (acc D 4)) ∧ w' = w := by
  go_enter Try.func27, Try.ntmps27
  go_wp2
  go_loop [3, 24] (fun r i => ∃ k : Nat, k ≤ 4 ∧ i = .int .i64 k ∧ r = .int .i32 (acc D k)) (fun _ i => 4 - (intOf i).toNat)
  case atStart => exact ⟨0, Nat.zero_le _, rfl, rfl⟩
  case round =>
    obtain ⟨k, hk, rfl, rfl⟩ := hrel
    by_cases hlt : k < 4
    · have hcell := hC.out k hlt
      have hacc := hA.out k hlt
      generalize hx : acc D k = x at *
      have Hx : Hid (acc D (k + 1) = x * 16 + D k) := by
        show acc D k * 16 + D k = x * 16 + D k
        rw [hx]
      clear hx
      rcases hD.out k hlt with ⟨h2, h3, h4⟩ | ⟨h2, h3, h4⟩ | ⟨h2, h3, h4⟩
      · have H4 : Hid (acc D (k + 1) = bits .or .i32 (x * 16) (C k - 48)) := by
          show acc D (k + 1) = _
          rw [or_i32 _ _ (by omega) (by omega) (by omega) (by omega), Hx.out, h4]
        clear h4
        go_wp2
        go_round
        case rel => exact ⟨k + 1, by omega, by go_num, by rw [H4.out]⟩
        case measure => simp [intOf]; omega
      · have H4 : Hid (acc D (k + 1) = bits .or .i32 (x * 16) (C k - 97 + 10)) := by
          show acc D (k + 1) = _
          rw [or_i32 _ _ (by omega) (by omega) (by omega) (by omega), Hx.out, h4]; omega
        clear h4
        go_wp2
        go_round
        case rel => exact ⟨k + 1, by omega, by go_num, by rw [H4.out]⟩
        case measure => simp [intOf]; omega
      · have H4 : Hid (acc D (k + 1) = bits .or .i32 (x * 16) (C k - 65 + 10)) := by
          show acc D (k + 1) = _
          rw [or_i32 _ _ (by omega) (by omega) (by omega) (by omega), Hx.out, h4]; omega
        clear h4
        go_wp2
        go_round
        case rel => exact ⟨k + 1, by omega, by go_num, by rw [H4.out]⟩
        case measure => simp [intOf]; omega
    · have hk4 : k = 4 := by omega
      subst hk4
      go_wp2
      go_ret
      exact ⟨rfl, rfl⟩

theorem f17 (v : Value) (w : World) (r : Int) (h : Calls Try.prog 27 #[v] w fun e w' => e = .returned (.int .i32 r) ∧ w' = w) : Calls Try.prog 17 #[v] w fun e w' => e = .returned (.int .i32 r) ∧ w' = w := by
  have H : Hid (Calls Try.prog 27 #[v] w fun e w' => e = .returned (.int .i32 r) ∧ w' = w) := h
  clear h
  go_enter Try.func17, Try.ntmps17
  go_wp2_with fail
  refine H.out.mono ?_
  rintro e w' ⟨rfl, rfl⟩
  go_wp2
  go_ret
  exact ⟨rfl, rfl⟩

theorem f19_yes (a0 : Int) (a1 : Bool) (a : Option Addr) (len cap : Nat) (w : World) (h : len ≤ 1048576) : Calls Try.prog 19 #[.int .i32 a0, .bool a1, .slice a len cap] w fun e w' => e = .returned (.bool true) ∧ w' = w := by
  go_enter Try.func19, Try.ntmps19
  go_wp2
  go_ret
  exact ⟨rfl, rfl⟩
theorem f19_no (a0 : Int) (a1 : Bool) (a : Option Addr) (len cap : Nat) (w : World) (h : 1048576 < len) (hm : len ≤ 9223372036854775807) : Calls Try.prog 19 #[.int .i32 a0, .bool a1, .slice a len cap] w fun e w' => e = .returned (.bool false) ∧ w' = w := by
  go_enter Try.func19, Try.ntmps19
  go_wp2
  go_ret
  exact ⟨rfl, rfl⟩

/-- The hex digit of d, in either case. -/
def hexc (d : Int) (up : Bool) : Int := if d < 10 then 48 + d else if up then 65 + d - 10 else 97 + d - 10
theorem hexv (d : Int) (up : Bool) (h0 : 0 ≤ d) (h1 : d < 16) : Hexv (hexc d up) d := by
  unfold Hexv hexc
  by_cases h : d < 10
  · rw [if_pos h]; omega
  · rw [if_neg h]; cases up <;> simp <;> omega
theorem f20 (d : Int) (up : Bool) (w : World) (h0 : 0 ≤ d) (h1 : d < 16) : Calls Try.prog 20 #[.int .u8 d, .bool up] w fun e w' => e = .returned (.int .u8 (hexc d up)) ∧ w' = w := by
  by_cases h : d < 10
  · have H : Hid (hexc d up = 48 + d) := if_pos h
    go_enter Try.func20, Try.ntmps20
    go_wp2
    go_ret
    rw [H.out]
    exact ⟨rfl, rfl⟩
  cases up
  · have H : Hid (hexc d false = 97 + d - 10) := by
      show hexc d false = _
      unfold hexc; rw [if_neg h]; rfl
    go_enter Try.func20, Try.ntmps20
    go_wp2
    go_ret
    rw [H.out]
    exact ⟨rfl, rfl⟩
  · have H : Hid (hexc d true = 65 + d - 10) := by
      show hexc d true = _
      unfold hexc; rw [if_neg h]; rfl
    go_enter Try.func20, Try.ntmps20
    go_wp2
    go_ret
    rw [H.out]
    exact ⟨rfl, rfl⟩
end Go.Proofs.Qxb6601779a.fnEscapedRuneRoundTrip
