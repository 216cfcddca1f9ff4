import Derived.Test.Qxb6601779aNumModel
namespace Go.Proofs.Qxb6601779a.fnNumberLenMatchesAutomaton
set_option linter.unusedVariables false

theorem step0 (c : Int) : stepZ 0 c = if c = 45 then 1 else if c = 48 then 2 else if 48 ≤ c ∧ c ≤ 57 then 3 else -1 := by simp [stepZ]
theorem step1 (c : Int) : stepZ 1 c = if c = 48 then 2 else if 48 ≤ c ∧ c ≤ 57 then 3 else -1 := by simp [stepZ]
theorem step2 (c : Int) : stepZ 2 c = if c = 46 then 4 else if c = 101 ∨ c = 69 then 6 else -1 := by simp [stepZ]
theorem step3 (c : Int) : stepZ 3 c = if 48 ≤ c ∧ c ≤ 57 then 3 else if c = 46 then 4 else if c = 101 ∨ c = 69 then 6 else -1 := by simp [stepZ]
theorem step4 (c : Int) : stepZ 4 c = if 48 ≤ c ∧ c ≤ 57 then 5 else -1 := by simp [stepZ]
theorem step5 (c : Int) : stepZ 5 c = if 48 ≤ c ∧ c ≤ 57 then 5 else if c = 101 ∨ c = 69 then 6 else -1 := by simp [stepZ]
theorem step6 (c : Int) : stepZ 6 c = if c = 43 ∨ c = 45 then 7 else if 48 ≤ c ∧ c ≤ 57 then 8 else -1 := by simp [stepZ]
theorem step7 (c : Int) : stepZ 7 c = if 48 ≤ c ∧ c ≤ 57 then 8 else -1 := by simp [stepZ]
theorem step8 (c : Int) : stepZ 8 c = if 48 ≤ c ∧ c ≤ 57 then 8 else -1 := by simp [stepZ]
theorem st_succ (z : Nat → Int) (k : Nat) : st z (k + 1) = stepZ (st z k) (z k) := rfl

theorem dg_at {z : Nat → Int} {q m d : Nat} (h : Dg (fun i => z (q + i)) m d) : d ≤ m ∧ (∀ j, j < d → 48 ≤ z (q + j) ∧ z (q + j) ≤ 57) ∧ (d < m → ¬ (48 ≤ z (q + d) ∧ z (q + d) ≤ 57)) := h

/-- The automaton has run p steps. -/
def Run (z : Nat → Int) (n p : Nat) : Prop := p ≤ n ∧ ∀ j, j < p → 0 ≤ st z (j + 1)
theorem Run.zero (z : Nat → Int) (n : Nat) : Run z n 0 := ⟨Nat.zero_le _, fun j hj => by omega⟩
theorem Run.succ {z : Nat → Int} {n p : Nat} (h : Run z n p) (hp : p < n) (hs : 0 ≤ st z (p + 1)) : Run z n (p + 1) :=
  ⟨hp, fun j hj => by
    by_cases hjp : j < p
    · exact h.2 j hjp
    · have : j = p := by omega
      subst this; exact hs⟩
theorem Run.digits {z : Nat → Int} {n q : Nat} {s : Int} (hs : ∀ c, 48 ≤ c ∧ c ≤ 57 → stepZ s c = s) (h0 : 0 ≤ s) (h : Run z n q) (hq : st z q = s) (d : Nat) (hd : ∀ j, j < d → 48 ≤ z (q + j) ∧ z (q + j) ≤ 57) (hn : q + d ≤ n) : Run z n (q + d) ∧ st z (q + d) = s := by
  induction d with
  | zero => exact ⟨h, hq⟩
  | succ d ih =>
    obtain ⟨h1, h2⟩ := ih (fun j hj => hd j (by omega)) (by omega)
    have e : st z (q + d + 1) = s := by rw [st_succ, h2, hs _ (hd d (by omega))]
    exact ⟨h1.succ (by omega) (by rw [e]; exact h0), e⟩
/-- The automaton stops at p. -/
theorem Run.stops {z : Nat → Int} {n p : Nat} (h : Run z n p) (hs : p < n → st z (p + 1) < 0) : Res z n (if accB (st z p) then (p : Int) else 0) :=
  ⟨p, h.1, h.2, by
    by_cases hp : p < n
    · exact .inr (hs hp)
    · exact .inl (by have := h.1; omega), rfl⟩

/-- Behind the sign; the integer part; the fraction; the exponent's head. -/
def S1 (z : Nat → Int) (n p : Nat) : Prop := Run z n p ∧ (st z p = 0 ∧ (p < n → z p ≠ 45) ∨ st z p = 1)
def S2 (z : Nat → Int) (n p : Nat) : Prop := Run z n p ∧ (st z p = 2 ∨ st z p = 3 ∧ (p < n → ¬ (48 ≤ z p ∧ z p ≤ 57)))
def S3 (z : Nat → Int) (n p : Nat) : Prop := Run z n p ∧ (st z p = 2 ∨ st z p = 3 ∨ st z p = 5) ∧ (p < n → (z p = 101 ∨ z p = 69) ∨ st z (p + 1) < 0)
def S4 (z : Nat → Int) (n q : Nat) : Prop := Run z n q ∧ (st z q = 6 ∧ (q < n → ¬ (z q = 43 ∨ z q = 45)) ∨ st z q = 7)

theorem s1_zero {z : Nat → Int} {n p : Nat} (h : S1 z n p) (hp : p < n) (hz : z p = 48) : S2 z n (p + 1) := by
  have e : st z (p + 1) = 2 := by
    rw [st_succ, hz]
    rcases h.2 with ⟨h2, _⟩ | h2 <;> rw [h2] <;> decide
  exact ⟨h.1.succ hp (by rw [e]; decide), .inl e⟩
theorem s1_digits {z : Nat → Int} {n p d : Nat} (h : S1 z n p) (hp : p < n) (h0 : 49 ≤ z p) (h1 : z p ≤ 57) (hd : Dg (fun i => z (p + i)) (n - p) d) : S2 z n (p + d) := by
  obtain ⟨hd1, hd2, hd3⟩ := dg_at hd
  have hpos : 0 < d := by
    rcases Nat.eq_zero_or_pos d with h' | h'
    · subst h'
      have := hd3 (by omega)
      rw [Nat.add_zero] at this
      omega
    · exact h'
  have e : st z (p + 1) = 3 := by
    rw [st_succ]
    rcases h.2 with ⟨h2, _⟩ | h2
    · rw [h2, step0, if_neg (by omega), if_neg (by omega), if_pos (by omega)]
    · rw [h2, step1, if_neg (by omega), if_pos (by omega)]
  have hr := h.1.succ hp (by rw [e]; decide)
  obtain ⟨r1, r2⟩ := Run.digits (s := 3) (fun c hc => by rw [step3, if_pos hc]) (by decide) hr e (d - 1) (fun j hj => by
    have := hd2 (j + 1) (by omega)
    rwa [show p + (j + 1) = p + 1 + j from by omega] at this) (by omega)
  rw [show p + 1 + (d - 1) = p + d from by omega] at r1 r2
  exact ⟨r1, .inr ⟨r2, fun hlt => hd3 (by omega)⟩⟩
theorem s1_fail {z : Nat → Int} {n p : Nat} (h : S1 z n p) (hz : p < n → ¬ (48 ≤ z p ∧ z p ≤ 57)) : Res z n 0 := by
  have := h.1.stops (fun hp => by
    have := hz hp
    rw [st_succ]
    rcases h.2 with ⟨h2, h3⟩ | h2
    · have := h3 hp
      rw [h2, step0, if_neg (by omega), if_neg (by omega), if_neg (by omega)]; decide
    · rw [h2, step1, if_neg (by omega), if_neg (by omega)]; decide)
  rcases h.2 with ⟨h2, _⟩ | h2 <;> rw [h2] at this <;> exact this
theorem s2_none {z : Nat → Int} {n p : Nat} (h : S2 z n p) (hz : p < n → z p ≠ 46) : S3 z n p := by
  refine ⟨h.1, ?_, fun hp => ?_⟩
  · rcases h.2 with h2 | ⟨h2, _⟩
    · exact .inl h2
    · exact .inr (.inl h2)
  · have := hz hp
    by_cases he : z p = 101 ∨ z p = 69
    · exact .inl he
    · right
      rw [st_succ]
      rcases h.2 with h2 | ⟨h2, h3⟩
      · rw [h2, step2, if_neg this, if_neg he]; decide
      · rw [h2, step3, if_neg (h3 hp), if_neg this, if_neg he]; decide
theorem s2_dot {z : Nat → Int} {n p : Nat} (h : S2 z n p) (hp : p < n) (hz : z p = 46) : Run z n (p + 1) ∧ st z (p + 1) = 4 := by
  have e : st z (p + 1) = 4 := by
    rw [st_succ, hz]
    rcases h.2 with h2 | ⟨h2, _⟩ <;> rw [h2] <;> decide
  exact ⟨h.1.succ hp (by rw [e]; decide), e⟩
theorem s2_dot0 {z : Nat → Int} {n p : Nat} (h : S2 z n p) (hp : p < n) (hz : z p = 46) (hd : Dg (fun i => z (p + 1 + i)) (n - (p + 1)) 0) : Res z n 0 := by
  obtain ⟨r, e⟩ := s2_dot h hp hz
  have := r.stops (fun hlt => by
    have := (dg_at hd).2.2 (by omega)
    rw [Nat.add_zero] at this
    rw [st_succ, e, step4, if_neg this]; decide)
  rw [e] at this
  exact this
theorem s2_dotd {z : Nat → Int} {n p d : Nat} (h : S2 z n p) (hp : p < n) (hz : z p = 46) (hd : Dg (fun i => z (p + 1 + i)) (n - (p + 1)) d) (hpos : 0 < d) : S3 z n (p + 1 + d) := by
  obtain ⟨r, e⟩ := s2_dot h hp hz
  obtain ⟨hd1, hd2, hd3⟩ := dg_at hd
  have e2 : st z (p + 1 + 1) = 5 := by
    have := hd2 0 hpos
    rw [Nat.add_zero] at this
    rw [st_succ, e, step4, if_pos this]
  obtain ⟨r1, r2⟩ := Run.digits (s := 5) (fun c hc => by rw [step5, if_pos hc]) (by decide) (r.succ (by omega) (by rw [e2]; decide)) e2 (d - 1) (fun j hj => by
    have := hd2 (j + 1) (by omega)
    rwa [show p + 1 + (j + 1) = p + 1 + 1 + j from by omega] at this) (by omega)
  rw [show p + 1 + 1 + (d - 1) = p + 1 + d from by omega] at r1 r2
  refine ⟨r1, .inr (.inr r2), fun hlt => ?_⟩
  by_cases he : z (p + 1 + d) = 101 ∨ z (p + 1 + d) = 69
  · exact .inl he
  · right
    rw [st_succ, r2, step5, if_neg (hd3 (by omega)), if_neg he]; decide
theorem s3_end {z : Nat → Int} {n p : Nat} (h : S3 z n p) (hz : p < n → ¬ (z p = 101 ∨ z p = 69)) : Res z n p := by
  have := h.1.stops (fun hp => (h.2.2 hp).resolve_left (hz hp))
  rcases h.2.1 with h2 | h2 | h2 <;> rw [h2] at this <;> exact this
theorem s3_exp {z : Nat → Int} {n p : Nat} (h : S3 z n p) (hp : p < n) (hz : z p = 101 ∨ z p = 69) : Run z n (p + 1) ∧ st z (p + 1) = 6 := by
  have e : st z (p + 1) = 6 := by
    rw [st_succ]
    rcases h.2.1 with h2 | h2 | h2
    · rw [h2, step2, if_neg (by omega), if_pos hz]
    · rw [h2, step3, if_neg (by omega), if_neg (by omega), if_pos hz]
    · rw [h2, step5, if_neg (by omega), if_pos hz]
  exact ⟨h.1.succ hp (by rw [e]; decide), e⟩
theorem s3_sign {z : Nat → Int} {n p : Nat} (h : S3 z n p) (hp : p < n) (hz : z p = 101 ∨ z p = 69) (hq : p + 1 < n) (hs : z (p + 1) = 43 ∨ z (p + 1) = 45) : S4 z n (p + 2) := by
  obtain ⟨r, e⟩ := s3_exp h hp hz
  have e2 : st z (p + 2) = 7 := by rw [st_succ, e, step6, if_pos hs]
  exact ⟨r.succ hq (by rw [e2]; decide), .inr e2⟩
theorem s3_plain {z : Nat → Int} {n p : Nat} (h : S3 z n p) (hp : p < n) (hz : z p = 101 ∨ z p = 69) (hs : p + 1 < n → ¬ (z (p + 1) = 43 ∨ z (p + 1) = 45)) : S4 z n (p + 1) := by
  obtain ⟨r, e⟩ := s3_exp h hp hz
  exact ⟨r, .inl ⟨e, hs⟩⟩
theorem s4_none {z : Nat → Int} {n q : Nat} (h : S4 z n q) (hd : Dg (fun i => z (q + i)) (n - q) 0) : Res z n 0 := by
  have := h.1.stops (fun hlt => by
    have hd' := (dg_at hd).2.2 (by omega)
    rw [Nat.add_zero] at hd'
    rw [st_succ]
    rcases h.2 with ⟨h2, h3⟩ | h2
    · rw [h2, step6, if_neg (h3 hlt), if_neg hd']; decide
    · rw [h2, step7, if_neg hd']; decide)
  rcases h.2 with ⟨h2, _⟩ | h2 <;> rw [h2] at this <;> exact this
theorem s4_digits {z : Nat → Int} {n q d : Nat} (h : S4 z n q) (hd : Dg (fun i => z (q + i)) (n - q) d) (hpos : 0 < d) : Res z n ((q + d : Nat) : Int) := by
  obtain ⟨hd1, hd2, hd3⟩ := dg_at hd
  have hd0 := hd2 0 hpos
  rw [Nat.add_zero] at hd0
  have e2 : st z (q + 1) = 8 := by
    rw [st_succ]
    rcases h.2 with ⟨h2, h3⟩ | h2
    · rw [h2, step6, if_neg (by omega), if_pos hd0]
    · rw [h2, step7, if_pos hd0]
  obtain ⟨r1, r2⟩ := Run.digits (s := 8) (fun c hc => by rw [step8, if_pos hc]) (by decide) (h.1.succ (by omega) (by rw [e2]; decide)) e2 (d - 1) (fun j hj => by
    have := hd2 (j + 1) (by omega)
    rwa [show q + (j + 1) = q + 1 + j from by omega] at this) (by omega)
  rw [show q + 1 + (d - 1) = q + d from by omega] at r1 r2
  have := r1.stops (fun hlt => by rw [st_succ, r2, step8, if_neg (hd3 (by omega))]; decide)
  rw [r2] at this
  exact this
end Go.Proofs.Qxb6601779a.fnNumberLenMatchesAutomaton
