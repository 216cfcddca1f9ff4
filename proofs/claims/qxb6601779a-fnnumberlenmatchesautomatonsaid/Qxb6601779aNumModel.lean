import Derived.Test.Qxb6601779aNumStep
namespace Go.Proofs.Qxb6601779a.fnNumberLenMatchesAutomaton
open Go.ChangeShapes Go.WideShapes Go.ChangeAt Go.RowKit bytesKit
set_option linter.unusedVariables false

/-- The automaton's state behind k bytes. -/
def st (z : Nat → Int) : Nat → Int
  | 0 => 0
  | k + 1 => stepZ (st z k) (z k)
theorem st_le (z : Nat → Int) (k : Nat) : st z k ≤ 8 := by
  cases k with
  | zero => show (0 : Int) ≤ 8; omega
  | succ k =>
    show stepZ (st z k) (z k) ≤ 8
    generalize st z k = s
    unfold stepZ
    repeat' split
    all_goals omega
/-- N is what the automaton answers: it stops at k. -/
def Res (z : Nat → Int) (n : Nat) (N : Int) : Prop :=
  ∃ k, k ≤ n ∧ (∀ j, j < k → 0 ≤ st z (j + 1)) ∧ (k = n ∨ st z (k + 1) < 0) ∧ N = if accB (st z k) then (k : Int) else 0
theorem Res.one {z : Nat → Int} {n : Nat} {N M : Int} (h : Res z n N) (h' : Res z n M) : N = M := by
  obtain ⟨k, h1, h2, h3, rfl⟩ := h
  obtain ⟨k', h1', h2', h3', rfl⟩ := h'
  have : k = k' := by
    rcases Nat.lt_trichotomy k k' with hlt | heq | hgt
    · rcases h3 with h3 | h3
      · omega
      · have := h2' k hlt; omega
    · exact heq
    · rcases h3' with h3 | h3
      · omega
      · have := h2 k' hgt; omega
  rw [this]

/-- The bytes lie from the slice's address on, each a byte. -/
def Data (w : World) (a : Option Addr) (n : Nat) (z : Nat → Int) : Prop :=
  (n = 0 ∨ ∃ g off, a = some ⟨g, off, none⟩ ∧ ∀ i, i < n → w.cell? ⟨g, off + i, none⟩ = some (.int .u8 (z i))) ∧ ∀ i, 0 ≤ z i ∧ z i ≤ 255

set_option maxHeartbeats 2000000 in
theorem f12 (a : Option Addr) (n cap : Nat) (z : Nat → Int) (w : World) (hn : n ≤ 1048576) (h : Hid (Data w a n z)) :
    Calls Try.prog 12 #[.slice a n cap] w fun e w' => (∃ N, e = .returned (.int .i64 N) ∧ Hid (Res z n N)) ∧ w' = w := by
  go_enter Try.func12, Try.ntmps12
  go_wp2
  go_loop [3, 4] (fun s i => ∃ k : Nat, k ≤ n ∧ i = .int .i64 k ∧ s = .int .i64 (st z k) ∧ 0 ≤ st z k ∧ Hid (∀ j, j < k → 0 ≤ st z (j + 1))) (fun _ i => n - (intOf i).toNat)
  case atStart => exact ⟨0, Nat.zero_le _, rfl, rfl, Int.le_refl 0, fun j hj => by omega⟩
  case round =>
    obtain ⟨k, hk, rfl, rfl, hpos, hrun⟩ := hrel
    have h8 := st_le z k
    by_cases hlt : k < n
    · obtain ⟨hd, hz⟩ := h.out
      rcases hd with hd | ⟨g, off, rfl, hc⟩
      · omega
      have hcell := hc k hlt
      obtain ⟨hz0, hz1⟩ := hz k
      clear hc hz
      go_wp2_with fail
      refine (f25 (st z k) (z k) _ hpos h8 hz0 hz1).mono ?_
      rintro e w' ⟨rfl, rfl⟩
      have Hs : Hid (st z (k + 1) = stepZ (st z k) (z k)) := rfl
      rw [show stepZ (st z k) (z k) = st z (k + 1) from rfl]
      by_cases hneg : st z (k + 1) < 0
      · go_wp2_with fail
        refine (f26 (st z k) _ hpos h8).mono ?_
        rintro e w' ⟨rfl, rfl⟩
        have HR : Hid (Res z n (if accB (st z k) then (k : Int) else 0)) := ⟨k, by omega, hrun.out, .inr hneg, rfl⟩
        cases hac : accB (st z k)
        · rw [hac] at HR
          clear hac
          go_wp2
          go_ret
          exact ⟨⟨_, rfl, HR⟩, rfl⟩
        · rw [hac] at HR
          clear hac
          go_wp2
          go_ret
          exact ⟨⟨_, rfl, HR⟩, rfl⟩
      · go_wp2
        go_round
        case rel => exact ⟨k + 1, by omega, by go_num, rfl, by omega, fun j hj => by
          by_cases hjk : j < k
          · exact hrun.out j hjk
          · have : j = k := by omega
            subst this; omega⟩
        case measure => simp [intOf]; omega
    · have hkn : k = n := by omega
      subst hkn
      go_wp2_with fail
      refine (f26 (st z k) _ hpos h8).mono ?_
      rintro e w' ⟨rfl, rfl⟩
      have HR : Hid (Res z k (if accB (st z k) then (k : Int) else 0)) := ⟨k, by omega, hrun.out, .inl rfl, rfl⟩
      cases hac : accB (st z k)
      · rw [hac] at HR
        clear hac
        go_wp2
        go_ret
        exact ⟨⟨_, rfl, HR⟩, rfl⟩
      · rw [hac] at HR
        clear hac
        go_wp2
        go_ret
        exact ⟨⟨_, rfl, HR⟩, rfl⟩

/-- d digits, and no more. -/
def Dg (z : Nat → Int) (m d : Nat) : Prop := d ≤ m ∧ (∀ j, j < d → 48 ≤ z j ∧ z j ≤ 57) ∧ (d < m → ¬ (48 ≤ z d ∧ z d ≤ 57))

set_option maxHeartbeats 2000000 in
theorem f24 (a : Option Addr) (m cap : Nat) (z : Nat → Int) (w : World) (hn : m ≤ 1048576) (h : Hid (m = 0 ∨ ∃ g off, a = some ⟨g, off, none⟩ ∧ ∀ i, i < m → w.cell? ⟨g, off + i, none⟩ = some (.int .u8 (z i)))) :
    Calls Try.prog 24 #[.slice a m cap] w fun e w' => (∃ d : Nat, e = .returned (.int .i64 d) ∧ Hid (Dg z m d)) ∧ w' = w := by
  go_enter Try.func24, Try.ntmps24
  go_wp2
  go_loop [3] (fun i => ∃ k : Nat, k ≤ m ∧ i = .int .i64 k ∧ Hid (∀ j, j < k → 48 ≤ z j ∧ z j ≤ 57)) (fun i => m - (intOf i).toNat)
  case atStart => exact ⟨0, Nat.zero_le _, rfl, fun j hj => by omega⟩
  case round =>
    obtain ⟨k, hk, rfl, hrun⟩ := hrel
    by_cases hlt : k < m
    · rcases h.out with hd | ⟨g, off, rfl, hc⟩
      · omega
      have hcell := hc k hlt
      clear hc
      by_cases h0 : 48 ≤ z k
      · by_cases h1 : z k ≤ 57
        · go_wp2
          go_round
          case rel => exact ⟨k + 1, by omega, by go_num, fun j hj => by
            by_cases hjk : j < k
            · exact hrun.out j hjk
            · have : j = k := by omega
              subst this; exact ⟨h0, h1⟩⟩
          case measure => simp [intOf]; omega
        · have HD : Hid (Dg z m k) := ⟨hk, hrun.out, fun _ => by omega⟩
          go_wp2
          go_ret
          exact ⟨⟨k, rfl, HD⟩, rfl⟩
      · have HD : Hid (Dg z m k) := ⟨hk, hrun.out, fun _ => by omega⟩
        go_wp2
        go_ret
        exact ⟨⟨k, rfl, HD⟩, rfl⟩
    · have HD : Hid (Dg z m k) := ⟨hk, hrun.out, fun _ => by omega⟩
      go_wp2
      go_ret
      exact ⟨⟨k, rfl, HD⟩, rfl⟩
end Go.Proofs.Qxb6601779a.fnNumberLenMatchesAutomaton
