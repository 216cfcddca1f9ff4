import Derived.Test.Qxb6602095aRows
import Derived.WalkKit
import Derived.ProofKit
import Derived.OpenShut
import Derived.Below
import Derived.WalkLawsBesides
import Derived.WalkSpells
import Derived.Laws.Rows
import Derived.Deep.QuietTactic
import Derived.BigQuiet
namespace Go.Proofs.Qxb6602095a.fnLinkTimedScriptKeepsBounds
open Go.ChangeShapes Go.WideShapes Go.ChangeAt Go.RowKit
set_option linter.unusedVariables false

/-- The ask that an answer may leave. -/
def Next (m m' : Int) : Prop := m' = m ∨ (m' = 2 * m ∧ 2 * m ≤ 1048576) ∨ (m' = 1048576 ∧ 1048576 < 2 * m) ∨ (m' = m / 2 ∧ 1024 ≤ m / 2) ∨ (m' = 1024 ∧ m / 2 < 1024)
/-- The rtt that an answer leaves. -/
def rt (r wt : Int) : Int := if r < 0 ∨ wt < r then wt else r

set_option maxHeartbeats 1000000 in
theorem f10 (w : World) (m r : Int) (h0 : 1024 ≤ m) (h1 : m ≤ 1048576) : Calls Try.prog 10 #[.pointer (some ⟨w.heap.size, 0, none⟩)] (w.alloc (.cells #[.int .u64 m, .int .i64 r] 32)) fun e w' => e = .returned (.tuple #[]) ∧ ∃ m', Hid (Next m m') ∧ w' = w.alloc (.cells #[.int .u64 m', .int .i64 r] 32) := by
  by_cases h : m / 2 < 1024
  · have HN : Hid (Next m 1024) := .inr (.inr (.inr (.inr ⟨rfl, h⟩)))
    go_enter Try.func10, Try.ntmps10
    go_wp2
    go_end0
    exact ⟨rfl, _, HN, rfl⟩
  · have HN : Hid (Next m (m / 2)) := .inr (.inr (.inr (.inl ⟨rfl, by omega⟩)))
    go_enter Try.func10, Try.ntmps10
    go_wp2
    go_end0
    exact ⟨rfl, _, HN, rfl⟩

set_option maxHeartbeats 2000000 in
theorem f9 (w : World) (m r wt sz : Int) (h0 : 1024 ≤ m) (h1 : m ≤ 1048576) (b0 : -9223372036854775808 ≤ wt) (b1 : wt ≤ 9223372036854775807) (b2 : r ≤ 9223372036854775807) : Calls Try.prog 9 #[.pointer (some ⟨w.heap.size, 0, none⟩), .int .i64 wt, .int .i64 sz] (w.alloc (.cells #[.int .u64 m, .int .i64 r] 32)) fun e w' => e = .returned (.tuple #[]) ∧ ∃ m', Hid (Next m m') ∧ w' = w.alloc (.cells #[.int .u64 m', .int .i64 (rt r wt)] 32) := by
  have HS : Hid (Next m m) := .inl rfl
  have HD : Hid (2 * m ≤ 1048576 → Next m (2 * m)) := fun h => .inr (.inl ⟨rfl, h⟩)
  have HM : Hid (1048576 < 2 * m → Next m 1048576) := fun h => .inr (.inr (.inl ⟨rfl, h⟩))
  by_cases hr : r < 0 ∨ wt < r
  · have HR : Hid (rt r wt = wt) := if_pos hr
    rw [HR.out]
    by_cases hr0 : r < 0
    · clear hr
      by_cases hg : m ≤ IntKind.u64.wrap (2 * IntKind.u64.wrap sz)
      · by_cases h2 : 2 * m ≤ 1048576
        · have HN' : Hid (Next m (2 * m)) := HD.out h2
          go_enter Try.func9, Try.ntmps9
          go_wp2
          go_end0
          exact ⟨rfl, _, HN', rfl⟩
        · have HN' : Hid (Next m 1048576) := HM.out (by omega)
          go_enter Try.func9, Try.ntmps9
          go_wp2
          go_end0
          exact ⟨rfl, _, HN', rfl⟩
      · go_enter Try.func9, Try.ntmps9
        go_wp2
        go_end0
        exact ⟨rfl, _, HS, rfl⟩
    · have hwr : wt < r := hr.resolve_left hr0
      have hr1 : 0 ≤ r := by omega
      clear hr hr0
      by_cases hg : m ≤ IntKind.u64.wrap (2 * IntKind.u64.wrap sz)
      · by_cases h2 : 2 * m ≤ 1048576
        · have HN' : Hid (Next m (2 * m)) := HD.out h2
          go_enter Try.func9, Try.ntmps9
          go_wp2
          go_end0
          exact ⟨rfl, _, HN', rfl⟩
        · have HN' : Hid (Next m 1048576) := HM.out (by omega)
          go_enter Try.func9, Try.ntmps9
          go_wp2
          go_end0
          exact ⟨rfl, _, HN', rfl⟩
      · go_enter Try.func9, Try.ntmps9
        go_wp2
        go_end0
        exact ⟨rfl, _, HS, rfl⟩
  · have HR : Hid (rt r wt = r) := if_neg hr
    rw [HR.out]
    have hr0 : 0 ≤ r := by omega
    have hr1 : r ≤ wt := by omega
    clear hr
    by_cases hc : wt - r ≤ 2
    · by_cases hg : m ≤ IntKind.u64.wrap (2 * IntKind.u64.wrap sz)
      · by_cases h2 : 2 * m ≤ 1048576
        · have HN' : Hid (Next m (2 * m)) := HD.out h2
          go_enter Try.func9, Try.ntmps9
          go_wp2
          go_end0
          exact ⟨rfl, _, HN', rfl⟩
        · have HN' : Hid (Next m 1048576) := HM.out (by omega)
          go_enter Try.func9, Try.ntmps9
          go_wp2
          go_end0
          exact ⟨rfl, _, HN', rfl⟩
      · go_enter Try.func9, Try.ntmps9
        go_wp2
        go_end0
        exact ⟨rfl, _, HS, rfl⟩
    · by_cases h5 : 5 ≤ wt - r
      · go_enter Try.func9, Try.ntmps9
        go_wp2_with fail
        refine (f10 w m r h0 h1).mono ?_
        rintro e w' ⟨rfl, m', HN, rfl⟩
        go_wp2
        go_end0
        exact ⟨rfl, _, HN, rfl⟩
      · go_enter Try.func9, Try.ntmps9
        go_wp2
        go_end0
        exact ⟨rfl, _, HS, rfl⟩

theorem bel_drewN {B : Nat} {a w : World} (h : Below B a w) (n : Nat) : Below B a (w.drewN n) := ⟨h.os, h.tape, h.output, h.size, h.block⟩

theorem f7 (w : World) (m r wt sz : Int) (h0 : 1024 ≤ m) (h1 : m ≤ 1048576) (b0 : -9223372036854775808 ≤ wt) (b1 : wt ≤ 9223372036854775807) (b2 : r ≤ 9223372036854775807) (R : Int) (hR : Hid (rt r wt = R)) : Calls Try.prog 7 #[.int .u64 m, .int .i64 r, .int .i64 wt, .int .i64 sz] w fun e w' => (∃ m', e = .returned (.tuple #[.int .u64 m', .int .i64 R]) ∧ Hid (Next m m')) ∧ Hid (Below w.heap.size w w') := by
  go_enter Try.func7, Try.ntmps7
  go_wp2_with fail
  refine (f9 w m r wt sz h0 h1 b0 b1 b2).mono ?_
  rintro e w' ⟨rfl, m', HN, rfl⟩
  rw [hR.out]
  clear hR
  go_wp2
  go_quiet (fail)
  go_wp2
  go_ret2
  exact ⟨⟨_, rfl, HN⟩, bel_drewN ((Below.refl _ _).alloc (Nat.le_refl _) _) _⟩

/-- The asks that may be: the powers of two from 1<<10 to 1<<20. -/
def pows : List Int := [1024, 2048, 4096, 8192, 16384, 32768, 65536, 131072, 262144, 524288, 1048576]
theorem pow_bd {m : Int} (h : m ∈ pows) : 1024 ≤ m ∧ m ≤ 1048576 := by
  simp only [pows, List.mem_cons, List.not_mem_nil, or_false] at h
  omega
theorem pow_next {m m' : Int} (h : m ∈ pows) (hn : Next m m') : m' ∈ pows := by
  simp only [pows, List.mem_cons, List.not_mem_nil, or_false] at h
  rcases h with rfl | rfl | rfl | rfl | rfl | rfl | rfl | rfl | rfl | rfl | rfl <;> rcases hn with rfl | ⟨rfl, h⟩ | ⟨rfl, h⟩ | ⟨rfl, h⟩ | ⟨rfl, h⟩ <;> first | decide | omega
theorem pow_bits {m : Int} (h : m ∈ pows) : bits .and .u64 m (m - 1) = 0 := by
  have key : ∀ x ∈ pows, bits .and .u64 x (x - 1) = 0 := by decide +kernel
  exact key m h
theorem f8 (m : Int) (w : World) (h : m ∈ pows) : Calls Try.prog 8 #[.int .u64 m] w fun e w' => e = .returned (.bool true) ∧ w' = w := by
  have hb : (bits .and .u64 m (m - 1) == 0) = true := by rw [beq_iff_eq]; exact pow_bits h
  obtain ⟨h0, h1⟩ := pow_bd h
  clear h
  go_enter Try.func8, Try.ntmps8
  go_wp2
  go_ret
  exact ⟨rfl, rfl⟩
end Go.Proofs.Qxb6602095a.fnLinkTimedScriptKeepsBounds
