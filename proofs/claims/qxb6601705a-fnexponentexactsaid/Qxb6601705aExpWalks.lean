import Derived.Test.Qxb6601705aRows
import Derived.WalkKit
import Derived.ProofKit
import Derived.OpenShut
import Derived.Deep.QuietTactic
import Derived.BigQuiet
namespace Go.Proofs.Qxb6601705a.fnExponentExact
open Go.ChangeShapes Go.WideShapes Go.ChangeAt Go.RowKit

def ints (s : ByteArray) : List Int := s.data.toList.map fun c => (c.toNat : Int)
theorem ints_length (s : ByteArray) : (ints s).length = s.size := by simp [ints]
theorem ints_get (s : ByteArray) (k : Nat) (h : k < s.size) : (ints s)[k]? = some (s[k].toNat : Int) := by
  have h' : k < s.data.size := h
  unfold ints
  rw [List.getElem?_map, Array.getElem?_toList, Array.getElem?_eq_getElem h']
  rfl
/-- Two texts agree where their lengths and all their places do. -/
theorem ints_eq (s : ByteArray) (zs : List Int) (hl : s.size = zs.length) (h : ∀ i (hi : i < s.size), (s[i].toNat : Int) = zs.getD i 0) : ints s = zs := by
  apply List.ext_getElem?
  intro i
  by_cases hi : i < s.size
  · rw [ints_get s i hi, h i hi]
    have : i < zs.length := by omega
    simp [this]
  · rw [List.getElem?_eq_none (by rw [ints_length]; omega), List.getElem?_eq_none (by omega)]

theorem ints_ne (s : ByteArray) (zs : List Int) (k : Nat) (hk : k < s.size) (hz : k < zs.length) (h : ((s[k].toNat : Int) != zs[k]) = true) : ints s ≠ zs := by
  intro he
  have h1 := ints_get s k hk
  rw [he, List.getElem?_eq_getElem hz] at h1
  simp at h1
  simp [h1] at h
theorem upto_succ {s : ByteArray} {zs : List Int} {k : Nat} (hrel : ∀ j (hj : j < s.size), j < k → (s[j].toNat : Int) = zs.getD j 0) (hz : k < zs.length) {hk : k < s.size} (h : ((s[k].toNat : Int) != zs[k]) = false) :
    ∀ j (hj : j < s.size), j < k + 1 → (s[j].toNat : Int) = zs.getD j 0 := by
  intro j hj hlt
  by_cases hjk : j < k
  · exact hrel j hj hjk
  · have : j = k := by omega
    subst this
    simp at h
    simp [hz, h]
theorem ret_bool {a b : Bool} (h : a = b) : Ending.returned (.bool a) = .returned (.bool b) := by rw [h]
set_option linter.unusedVariables false in
set_option maxHeartbeats 400000 in
theorem same_any (s : ByteArray) (w : World) (B n cap : Nat) (zs : List Int) (hn : zs.length = n) (hn3 : n ≤ 3) (hs : s.size ≤ 1048576)
    (hc : ∀ i, i < n → w.cell? ⟨B, i, none⟩ = some (.int .u8 (zs.getD i 0))) :
    Calls Try.prog 23 #[.string s, .slice (some ⟨B, 0, none⟩) n cap] w fun e w' => e = .returned (.bool (decide (ints s = zs))) ∧ ∃ nq, w' = w.drewN nq := by
  by_cases hl : s.size = n
  · have hb : ((s.size : Int) != (n : Int)) = false := by simp; omega
    have Hl : Hid (s.size = n) := hl
    have hle : s.size ≤ n := by omega
    have hge : n ≤ s.size := by omega
    clear hl
    go_enter Try.func23, Try.ntmps23
    go_wp2
    go_loopw [5] (fun i w' => ∃ k : Nat, k ≤ n ∧ i = .int .i64 k ∧ (∃ nq, w' = w.drewN nq) ∧ ∀ j (hj : j < s.size), j < k → (s[j].toNat : Int) = zs.getD j 0) (fun i _ => n - (intOf i).toNat)
    case atStart => exact ⟨0, Nat.zero_le _, rfl, ⟨0, rfl⟩, fun j _ hj => by omega⟩
    case round =>
      obtain ⟨k, hk, rfl, ⟨nq, rfl⟩, hrel⟩ := hrel
      have Hrel : Hid (∀ j (hj : j < s.size), j < k → (s[j].toNat : Int) = zs.getD j 0) := hrel
      clear hrel
      by_cases hlt : k < n
      · have hcell := hc k hlt
        have hks : k < s.size := by omega
        go_wp2
        go_quiet (fail)
        go_wp2
        · go_ret
          refine ⟨ret_bool ?_, _, World.drewN_drewN _ _ _⟩
          rw [eq_comm, decide_eq_false_iff_not]
          exact ints_ne s zs k hks (by omega) (by assumption)
        · go_roundw
          case rel => exact ⟨k + 1, by omega, by go_num, ⟨_, rfl⟩, upto_succ Hrel.out (by omega) (by assumption)⟩
          case measure => simp [intOf]; omega
      · go_wp2
        go_ret
        refine ⟨ret_bool ?_, nq, rfl⟩
        rw [eq_comm, decide_eq_true_iff]
        have hl := Hl.out
        exact ints_eq s zs (by omega) fun i hi => Hrel.out i hi (by omega)
  · have hb : ((s.size : Int) != (n : Int)) = true := by simp; omega
    go_enter Try.func23, Try.ntmps23
    go_wp2
    go_ret
    refine ⟨ret_bool ?_, 0, rfl⟩
    rw [eq_comm, decide_eq_false_iff_not]
    intro h; apply hl; rw [← hn, ← h, ints_length]

/-! ### The plain side -/
def dig (c : Int) : Bool := decide (48 ≤ c) && decide (c ≤ 57)
def short (l : List Int) : Bool := (decide (1 ≤ l.length) && decide (l.length ≤ 2)) && l.all dig
def sgn : List Int → Bool
  | [] => false
  | c :: _ => c == 43 || c == 45
def expB (l : List Int) : Bool := if sgn l then short l.tail else short l

/-- The first k bytes of t are digits. -/
def digs (t : ByteArray) (k : Nat) : Prop := ∀ j (hj : j < t.size), j < k → 48 ≤ (t[j].toNat : Int) ∧ (t[j].toNat : Int) ≤ 57
theorem digs_succ {t : ByteArray} {k : Nat} (h : digs t k) {hk : k < t.size} (h1 : 48 ≤ (t[k].toNat : Int)) (h2 : (t[k].toNat : Int) ≤ 57) : digs t (k + 1) := by
  intro j hj hlt
  by_cases hjk : j < k
  · exact h j hj hjk
  · have : j = k := by omega
    subst this; exact ⟨h1, h2⟩
theorem mem_ints {t : ByteArray} {c : Int} (h : c ∈ ints t) : ∃ j, ∃ hj : j < t.size, c = (t[j].toNat : Int) := by
  obtain ⟨j, hj, e⟩ := List.mem_iff_getElem.1 h
  rw [ints_length] at hj
  have := ints_get t j hj
  rw [List.getElem?_eq_getElem (by rw [ints_length]; exact hj), e] at this
  exact ⟨j, hj, by simpa using this⟩
theorem ints_mem (t : ByteArray) (j : Nat) (hj : j < t.size) : (t[j].toNat : Int) ∈ ints t := List.mem_of_getElem? (ints_get t j hj)
theorem short_yes {t : ByteArray} {k : Nat} (h : digs t k) (hk : t.size ≤ k) (h1 : 1 ≤ t.size) (h2 : t.size ≤ 2) : short (ints t) = true := by
  unfold short
  rw [ints_length, decide_eq_true h1, decide_eq_true h2, Bool.and_self, Bool.true_and, List.all_eq_true]
  intro c hc
  obtain ⟨j, hj, rfl⟩ := mem_ints hc
  have := h j hj (by omega)
  simp [dig]; omega
theorem short_no {t : ByteArray} {k : Nat} (hk : k < t.size) (h : (t[k].toNat : Int) < 48 ∨ 57 < (t[k].toNat : Int)) : short (ints t) = false := by
  have : (ints t).all dig = false := by
    rw [List.all_eq_false]
    exact ⟨_, ints_mem t k hk, by simp [dig]; omega⟩
  unfold short; rw [this, Bool.and_false]
theorem short_size {t : ByteArray} (h : t.size = 0 ∨ 2 < t.size) : short (ints t) = false := by
  unfold short; rw [ints_length]
  have : (decide (1 ≤ t.size) && decide (t.size ≤ 2)) = false := by simp; omega
  rw [this, Bool.false_and]

theorem bytes_any (s : ByteArray) (w : World) (hs : s.size ≤ 1048576) :
    Calls Try.prog 12 #[.string s] w fun e w' => e = .returned (.bool true) ∧ w' = w := by
  go_enter Try.func12, Try.ntmps12
  go_wp2
  go_ret
  exact ⟨rfl, rfl⟩
theorem bytes_not (s : ByteArray) (w : World) (hs : 1048576 < s.size) :
    Calls Try.prog 12 #[.string s] w fun e w' => e = .returned (.bool false) ∧ w' = w := by
  go_enter Try.func12, Try.ntmps12
  go_wp2
  go_ret
  exact ⟨rfl, rfl⟩

set_option maxHeartbeats 1000000 in
theorem exp_sign (s t : ByteArray) (Ht : Hid (s.extract 1 s.size = t)) (w : World) (h : 0 < s.size) (h0 : ((s[0].toNat : Int) == 43) = true ∨ ((s[0].toNat : Int) == 43) = false ∧ ((s[0].toNat : Int) == 45) = true) :
    Calls Try.prog 22 #[.string s] w fun e w' => e = .returned (.bool (short (ints t))) ∧ w' = w := by
  have hts : t.size = s.size - 1 := by rw [← Ht.out]; simp
  by_cases hz : s.size = 1
  · have Hf : Hid (short (ints t) = false) := short_size (by omega)
    clear hts
    rcases h0 with h0 | ⟨h0, h1⟩
    all_goals
      go_enter Try.func22, Try.ntmps22
      go_wp2
      go_ret
      exact ⟨ret_bool Hf.out.symm, rfl⟩
  by_cases hb : 3 < s.size
  · have Hf : Hid (short (ints t) = false) := short_size (by omega)
    clear hts
    rcases h0 with h0 | ⟨h0, h1⟩
    all_goals
      go_enter Try.func22, Try.ntmps22
      go_wp2
      go_ret
      exact ⟨ret_bool Hf.out.symm, rfl⟩
  have h1t : 1 ≤ t.size := by omega
  have h2t : t.size ≤ 2 := by omega
  clear hts
  have hd0 : (((s.size - 1 : Nat) : Int) == 0) = false := by simp; omega
  have hd2 : ¬ 2 < ((s.size - 1 : Nat) : Int) := by omega
  rcases h0 with h0 | ⟨h0, h1⟩
  all_goals
    go_enter Try.func22, Try.ntmps22
    go_wp2
    simp only [Ht.out]
    clear Ht hd0 hd2 hz hb
    go_loop [3] (fun i => ∃ k : Nat, k ≤ t.size ∧ i = .int .i64 k ∧ Hid (digs t k)) (fun i => t.size - (intOf i).toNat)
    case atStart => exact ⟨0, Nat.zero_le _, rfl, fun j _ hj => by omega⟩
    case round =>
      obtain ⟨k, hk, rfl, hrel⟩ := hrel
      by_cases hlt : k < t.size
      · by_cases h48 : (t[k].toNat : Int) < 48
        · go_wp2
          go_ret
          exact ⟨ret_bool (short_no hlt (.inl h48)).symm, rfl⟩
        by_cases h57 : 57 < (t[k].toNat : Int)
        · go_wp2
          go_ret
          exact ⟨ret_bool (short_no hlt (.inr h57)).symm, rfl⟩
        go_wp2
        go_round
        case rel => exact ⟨k + 1, by omega, by go_num, digs_succ hrel.out (by omega) (by omega)⟩
        case measure => simp [intOf]; omega
      · go_wp2
        go_ret
        exact ⟨ret_bool (short_yes hrel.out (by omega) h1t h2t).symm, rfl⟩

set_option maxHeartbeats 1000000 in
theorem exp_plain (t : ByteArray) (w : World) (h0 : ∀ h : 0 < t.size, ((t[0].toNat : Int) == 43) = false ∧ ((t[0].toNat : Int) == 45) = false) :
    Calls Try.prog 22 #[.string t] w fun e w' => e = .returned (.bool (short (ints t))) ∧ w' = w := by
  by_cases hz : t.size = 0
  · have Hf : Hid (short (ints t) = false) := short_size (by omega)
    clear h0
    go_enter Try.func22, Try.ntmps22
    go_wp2
    go_ret
    exact ⟨ret_bool Hf.out.symm, rfl⟩
  have h1t : 1 ≤ t.size := by omega
  have hp : 0 < t.size := by omega
  obtain ⟨g0, g1⟩ := h0 hp
  have gz : ((t.size : Int) == 0) = false := by rw [beq_eq_false_iff_ne]; omega
  clear hz h0
  by_cases hb : 2 < t.size
  · have Hf : Hid (short (ints t) = false) := short_size (by omega)
    go_enter Try.func22, Try.ntmps22
    go_wp2
    go_ret
    exact ⟨ret_bool Hf.out.symm, rfl⟩
  have h2t : t.size ≤ 2 := by omega
  clear hb
  go_enter Try.func22, Try.ntmps22
  go_wp2
  go_loop [3] (fun i => ∃ k : Nat, k ≤ t.size ∧ i = .int .i64 k ∧ Hid (digs t k)) (fun i => t.size - (intOf i).toNat)
  case atStart => exact ⟨0, Nat.zero_le _, rfl, fun j _ hj => by omega⟩
  case round =>
    obtain ⟨k, hk, rfl, hrel⟩ := hrel
    by_cases hlt : k < t.size
    · by_cases h48 : (t[k].toNat : Int) < 48
      · go_wp2
        go_ret
        exact ⟨ret_bool (short_no hlt (.inl h48)).symm, rfl⟩
      by_cases h57 : 57 < (t[k].toNat : Int)
      · go_wp2
        go_ret
        exact ⟨ret_bool (short_no hlt (.inr h57)).symm, rfl⟩
      go_wp2
      go_round
      case rel => exact ⟨k + 1, by omega, by go_num, digs_succ hrel.out (by omega) (by omega)⟩
      case measure => simp [intOf]; omega
    · go_wp2
      go_ret
      exact ⟨ret_bool (short_yes hrel.out (by omega) h1t h2t).symm, rfl⟩
end Go.Proofs.Qxb6601705a.fnExponentExact
