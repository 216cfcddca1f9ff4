import Derived.Test.Qxb6602095aLinkClone
namespace Go.Proofs.Qxb6602095a.fnLinkTimedScriptKeepsBounds
open Go.ChangeShapes Go.WideShapes Go.ChangeAt Go.RowKit
set_option linter.unusedVariables false

/-- While no wait has been negative: nothing was seen, or rtt is the fewest. -/
def Inv (k : Nat) (R F : Int) (bb : Bool) : Prop := bb = true → (k = 0 ∧ R = -1) ∨ (0 < k ∧ R = F ∧ 0 ≤ F)
theorem inv_next {k : Nat} {R F X R' F' : Int} (h : Inv k R F true) (hR : rt R X = R') (hX : 0 ≤ X) (hc : k = 0 ∧ F' = X ∨ 0 < k ∧ X < F ∧ F' = X ∨ 0 < k ∧ ¬ X < F ∧ F' = F) : R' = F' ∧ 0 ≤ F' := by
  have h' := h rfl
  rw [← hR]
  unfold rt
  split <;> omega

theorem IsRow.below {w w' : World} {a : Option Addr} {len cap : Nat} {zs : List Int} (h : IsRow .i64 w a len cap zs) (hb : Below w.heap.size w w') : IsRow .i64 w' a len cap zs := by
  rcases h with h | ⟨x, rfl, hl, hm, hz, hc, hw⟩
  · exact .inl h
  · exact .inr ⟨x, rfl, hl, hm, hz, fun i hi => by rw [hb.cell (World.block_lt_of_cell? w _ (hc i hi))]; exact hc i hi, hw⟩
theorem IsRow.bd {w : World} {a : Option Addr} {len cap : Nat} {zs : List Int} (h : IsRow .i64 w a len cap zs) : ∀ i, -9223372036854775808 ≤ zs.getD i 0 ∧ zs.getD i 0 ≤ 9223372036854775807 := by
  intro i
  have hw : ∀ n ∈ zs, (Lit.int .i64 n).wf = true := by
    rcases h with ⟨_, _, _, rfl⟩ | ⟨x, rfl, hl, hm, hz, hc, hw⟩
    · exact fun n hn => by cases hn
    · exact hw
  by_cases hi : i < zs.length
  · have := bounds_i64 (hw zs[i] (List.getElem_mem hi))
    simpa [hi] using this
  · simp [hi]
theorem IsRow.len {w : World} {a : Option Addr} {len cap : Nat} {zs : List Int} (h : IsRow .i64 w a len cap zs) : len ≤ 9223372036854775807 := by
  rcases h with ⟨_, h, _⟩ | ⟨x, _, hl, hc, _⟩
  · omega
  · unfold maxLen at hc; omega

set_option maxRecDepth 100000 in
set_option maxHeartbeats 8000000 in
theorem mainWay (a0 : Option Addr) (len0 cap0 : Nat) (z0 : List Int) (a1 : Option Addr) (len1 cap1 : Nat) (z1 : List Int) (w : World) (h0 : Hid (IsRow .i64 w a0 len0 cap0 z0)) (h1 : Hid (IsRow .i64 w a1 len1 cap1 z1)) (hl0 : len0 ≤ 65536) (hl1 : len1 ≤ 65536) :
    Calls Try.prog 3 #[.slice a0 len0 cap0, .slice a1 len1 cap1] w fun e w' => e = .returned (.bool true) ∧ Below w.heap.size w w' := by
  have hd0 : decide (65536 < (len0 : Int)) = false := by simp; omega
  have hd1 : decide (65536 < (len1 : Int)) = false := by simp; omega
  have HZ : Hid (∀ i, -9223372036854775808 ≤ z0.getD i 0 ∧ z0.getD i 0 ≤ 9223372036854775807) := h0.out.bd
  go_enter Try.func3, Try.ntmps3
  go_wp2_with fail
  refine (f5 a0 len0 cap0 a1 len1 cap1 _ (by omega) (by omega)).mono ?_
  rintro e w' ⟨⟨b5, rfl⟩, rfl⟩
  cases b5
  · go_wp2
    go_ret
    exact ⟨rfl, Below.refl _ _⟩
  go_wp2_with fail
  refine (clone_any a0 len0 cap0 z0 _ h0.out hl0).mono ?_
  rintro e w1 ⟨c0, rfl, hi0, hb0⟩
  have H1' : Hid (IsRow .i64 w1 a1 len1 cap1 z1) := h1.out.below hb0
  have Hi0 : Hid (IntsAt w1 c0 len0 z0) := hi0
  have Hb0 : Hid (Below w'.heap.size w' w1) := hb0
  clear hi0 hb0 h0 h1
  go_wp2_with fail
  refine (clone_any a1 len1 cap1 z1 _ H1'.out hl1).mono ?_
  rintro e w2 ⟨c1, rfl, hi1, hb1⟩
  have HA0 : Hid (IntsAt w2 c0 len0 z0) := Hi0.out.below hb1
  have HA1 : Hid (IntsAt w2 c1 len1 z1) := hi1
  have Hw2 : Hid (Below w'.heap.size w' w2) := Hb0.out.trans (hb1.mono Hb0.out.size)
  clear hi1 hb1 H1' Hi0 Hb0
  by_cases hs : len1 < len0
  · have hds : decide ((len1 : Int) < (len0 : Int)) = true := by simp; omega
    go_wp2
    go_loopw [6, 7, 8, 9, 10] (fun m r f b i wr => ∃ k : Nat, k ≤ len1 ∧ i = .int .i64 k ∧ ∃ (M R F : Int) (bb : Bool), m = .int .u64 M ∧ r = .int .i64 R ∧ f = .int .i64 F ∧ b = .bool bb ∧ Hid (M ∈ pows) ∧ R ≤ 9223372036854775807 ∧ Hid (Inv k R F bb) ∧ Hid (Below w2.heap.size w2 wr)) (fun _ _ _ _ i _ => len1 - (intOf i).toNat)
    case atStart => exact ⟨0, Nat.zero_le _, rfl, 1024, -1, -1, true, rfl, rfl, rfl, rfl, (by decide : (1024 : Int) ∈ pows), by omega, fun _ => .inl ⟨rfl, rfl⟩, Below.refl _ _⟩
    case round =>
      obtain ⟨k, hk, rfl, M, R, F, bb, rfl, rfl, rfl, rfl, HM, hRb, HI, Hbel⟩ := hrel
      by_cases hlt : k < len1
      · obtain ⟨hM0, hM1⟩ := pow_bd HM.out
        obtain ⟨g0, o0, rfl, hg0, hc0⟩ := HA0.out.resolve_left (by omega)
        obtain ⟨g1, o1, rfl, hg1, hc1⟩ := HA1.out.resolve_left (by omega)
        have hx : wr.cell? ⟨g0, o0 + k, none⟩ = some (.int .i64 (z0.getD k 0)) := by
          rw [Hbel.out.cell hg0]; exact hc0 k (by omega)
        have hy : wr.cell? ⟨g1, o1 + k, none⟩ = some (.int .i64 (z1.getD k 0)) := by
          rw [Hbel.out.cell hg1]; exact hc1 k (by omega)
        obtain ⟨hX0, hX1⟩ := HZ.out k
        clear hc0 hc1
        generalize z0.getD k 0 = X at *
        generalize z1.getD k 0 = Y at *
        obtain ⟨R', HR'⟩ : ∃ R', Hid (rt R X = R') := ⟨_, rfl⟩
        have hRb' : R' ≤ 9223372036854775807 := by rw [← HR'.out]; unfold rt; split <;> omega
        by_cases hneg : X < 0
        · cases bb
          · by_cases hk0 : k = 0
            · have bk : ((k : Int) == 0) = true := by rw [beq_iff_eq]; omega
              have HI' : Hid (Inv (k + 1) R' X false) := fun h => (by cases h)
              clear hk0
              go_wp2_with fail
              refine (f7 _ M R X Y hM0 hM1 hX0 hX1 hRb R' HR').mono ?_
              rintro e w3 ⟨⟨m', rfl, HN⟩, Hb3⟩
              have HM' : Hid (m' ∈ pows) := pow_next HM.out HN.out
              have Hb' : Hid (Below w2.heap.size w2 w3) := Hbel.out.trans (Hb3.out.mono Hbel.out.size)
              clear HN Hb3 HM Hbel
              go_wp2_with fail
              refine (f8 m' _ HM'.out).mono ?_
              rintro e w4 ⟨rfl, rfl⟩
              go_wp2
              go_roundw
              case rel => exact ⟨k + 1, by omega, by go_num, m', R', X, _, rfl, rfl, rfl, rfl, HM', hRb', HI', Hb'⟩
              case measure => simp [intOf]; omega
            have bk : ((k : Int) == 0) = false := by rw [beq_eq_false_iff_ne]; omega
            by_cases hXF : X < F
            · have HI' : Hid (Inv (k + 1) R' X false) := fun h => (by cases h)
              go_wp2_with fail
              refine (f7 _ M R X Y hM0 hM1 hX0 hX1 hRb R' HR').mono ?_
              rintro e w3 ⟨⟨m', rfl, HN⟩, Hb3⟩
              have HM' : Hid (m' ∈ pows) := pow_next HM.out HN.out
              have Hb' : Hid (Below w2.heap.size w2 w3) := Hbel.out.trans (Hb3.out.mono Hbel.out.size)
              clear HN Hb3 HM Hbel
              go_wp2_with fail
              refine (f8 m' _ HM'.out).mono ?_
              rintro e w4 ⟨rfl, rfl⟩
              go_wp2
              go_roundw
              case rel => exact ⟨k + 1, by omega, by go_num, m', R', X, _, rfl, rfl, rfl, rfl, HM', hRb', HI', Hb'⟩
              case measure => simp [intOf]; omega
            · have HI' : Hid (Inv (k + 1) R' F false) := fun h => (by cases h)
              go_wp2_with fail
              refine (f7 _ M R X Y hM0 hM1 hX0 hX1 hRb R' HR').mono ?_
              rintro e w3 ⟨⟨m', rfl, HN⟩, Hb3⟩
              have HM' : Hid (m' ∈ pows) := pow_next HM.out HN.out
              have Hb' : Hid (Below w2.heap.size w2 w3) := Hbel.out.trans (Hb3.out.mono Hbel.out.size)
              clear HN Hb3 HM Hbel
              go_wp2_with fail
              refine (f8 m' _ HM'.out).mono ?_
              rintro e w4 ⟨rfl, rfl⟩
              go_wp2
              go_roundw
              case rel => exact ⟨k + 1, by omega, by go_num, m', R', F, _, rfl, rfl, rfl, rfl, HM', hRb', HI', Hb'⟩
              case measure => simp [intOf]; omega
          · by_cases hk0 : k = 0
            · have bk : ((k : Int) == 0) = true := by rw [beq_iff_eq]; omega
              have HI' : Hid (Inv (k + 1) R' X false) := fun h => (by cases h)
              clear hk0
              go_wp2_with fail
              refine (f7 _ M R X Y hM0 hM1 hX0 hX1 hRb R' HR').mono ?_
              rintro e w3 ⟨⟨m', rfl, HN⟩, Hb3⟩
              have HM' : Hid (m' ∈ pows) := pow_next HM.out HN.out
              have Hb' : Hid (Below w2.heap.size w2 w3) := Hbel.out.trans (Hb3.out.mono Hbel.out.size)
              clear HN Hb3 HM Hbel
              go_wp2_with fail
              refine (f8 m' _ HM'.out).mono ?_
              rintro e w4 ⟨rfl, rfl⟩
              go_wp2
              go_roundw
              case rel => exact ⟨k + 1, by omega, by go_num, m', R', X, _, rfl, rfl, rfl, rfl, HM', hRb', HI', Hb'⟩
              case measure => simp [intOf]; omega
            have bk : ((k : Int) == 0) = false := by rw [beq_eq_false_iff_ne]; omega
            by_cases hXF : X < F
            · have HI' : Hid (Inv (k + 1) R' X false) := fun h => (by cases h)
              go_wp2_with fail
              refine (f7 _ M R X Y hM0 hM1 hX0 hX1 hRb R' HR').mono ?_
              rintro e w3 ⟨⟨m', rfl, HN⟩, Hb3⟩
              have HM' : Hid (m' ∈ pows) := pow_next HM.out HN.out
              have Hb' : Hid (Below w2.heap.size w2 w3) := Hbel.out.trans (Hb3.out.mono Hbel.out.size)
              clear HN Hb3 HM Hbel
              go_wp2_with fail
              refine (f8 m' _ HM'.out).mono ?_
              rintro e w4 ⟨rfl, rfl⟩
              go_wp2
              go_roundw
              case rel => exact ⟨k + 1, by omega, by go_num, m', R', X, _, rfl, rfl, rfl, rfl, HM', hRb', HI', Hb'⟩
              case measure => simp [intOf]; omega
            · have HI' : Hid (Inv (k + 1) R' F false) := fun h => (by cases h)
              go_wp2_with fail
              refine (f7 _ M R X Y hM0 hM1 hX0 hX1 hRb R' HR').mono ?_
              rintro e w3 ⟨⟨m', rfl, HN⟩, Hb3⟩
              have HM' : Hid (m' ∈ pows) := pow_next HM.out HN.out
              have Hb' : Hid (Below w2.heap.size w2 w3) := Hbel.out.trans (Hb3.out.mono Hbel.out.size)
              clear HN Hb3 HM Hbel
              go_wp2_with fail
              refine (f8 m' _ HM'.out).mono ?_
              rintro e w4 ⟨rfl, rfl⟩
              go_wp2
              go_roundw
              case rel => exact ⟨k + 1, by omega, by go_num, m', R', F, _, rfl, rfl, rfl, rfl, HM', hRb', HI', Hb'⟩
              case measure => simp [intOf]; omega
        · cases bb
          · by_cases hk0 : k = 0
            · have bk : ((k : Int) == 0) = true := by rw [beq_iff_eq]; omega
              have HI' : Hid (Inv (k + 1) R' X false) := fun h => (by cases h)
              clear hk0
              go_wp2_with fail
              refine (f7 _ M R X Y hM0 hM1 hX0 hX1 hRb R' HR').mono ?_
              rintro e w3 ⟨⟨m', rfl, HN⟩, Hb3⟩
              have HM' : Hid (m' ∈ pows) := pow_next HM.out HN.out
              have Hb' : Hid (Below w2.heap.size w2 w3) := Hbel.out.trans (Hb3.out.mono Hbel.out.size)
              clear HN Hb3 HM Hbel
              go_wp2_with fail
              refine (f8 m' _ HM'.out).mono ?_
              rintro e w4 ⟨rfl, rfl⟩
              go_wp2
              go_roundw
              case rel => exact ⟨k + 1, by omega, by go_num, m', R', X, _, rfl, rfl, rfl, rfl, HM', hRb', HI', Hb'⟩
              case measure => simp [intOf]; omega
            have bk : ((k : Int) == 0) = false := by rw [beq_eq_false_iff_ne]; omega
            by_cases hXF : X < F
            · have HI' : Hid (Inv (k + 1) R' X false) := fun h => (by cases h)
              go_wp2_with fail
              refine (f7 _ M R X Y hM0 hM1 hX0 hX1 hRb R' HR').mono ?_
              rintro e w3 ⟨⟨m', rfl, HN⟩, Hb3⟩
              have HM' : Hid (m' ∈ pows) := pow_next HM.out HN.out
              have Hb' : Hid (Below w2.heap.size w2 w3) := Hbel.out.trans (Hb3.out.mono Hbel.out.size)
              clear HN Hb3 HM Hbel
              go_wp2_with fail
              refine (f8 m' _ HM'.out).mono ?_
              rintro e w4 ⟨rfl, rfl⟩
              go_wp2
              go_roundw
              case rel => exact ⟨k + 1, by omega, by go_num, m', R', X, _, rfl, rfl, rfl, rfl, HM', hRb', HI', Hb'⟩
              case measure => simp [intOf]; omega
            · have HI' : Hid (Inv (k + 1) R' F false) := fun h => (by cases h)
              go_wp2_with fail
              refine (f7 _ M R X Y hM0 hM1 hX0 hX1 hRb R' HR').mono ?_
              rintro e w3 ⟨⟨m', rfl, HN⟩, Hb3⟩
              have HM' : Hid (m' ∈ pows) := pow_next HM.out HN.out
              have Hb' : Hid (Below w2.heap.size w2 w3) := Hbel.out.trans (Hb3.out.mono Hbel.out.size)
              clear HN Hb3 HM Hbel
              go_wp2_with fail
              refine (f8 m' _ HM'.out).mono ?_
              rintro e w4 ⟨rfl, rfl⟩
              go_wp2
              go_roundw
              case rel => exact ⟨k + 1, by omega, by go_num, m', R', F, _, rfl, rfl, rfl, rfl, HM', hRb', HI', Hb'⟩
              case measure => simp [intOf]; omega
          · by_cases hk0 : k = 0
            · have bk : ((k : Int) == 0) = true := by rw [beq_iff_eq]; omega
              have hcase : k = 0 ∧ X = X ∨ 0 < k ∧ X < F ∧ X = X ∨ 0 < k ∧ ¬ X < F ∧ X = F := .inl ⟨hk0, rfl⟩
              have HE : R' = X ∧ 0 ≤ X := inv_next HI.out HR'.out (by omega) hcase
              have hne : (R' != X) = false := by rw [HE.1]; simp
              have HI' : Hid (Inv (k + 1) R' X true) := fun _ => .inr ⟨by omega, HE.1, HE.2⟩
              clear HE hcase
              clear hk0
              go_wp2_with fail
              refine (f7 _ M R X Y hM0 hM1 hX0 hX1 hRb R' HR').mono ?_
              rintro e w3 ⟨⟨m', rfl, HN⟩, Hb3⟩
              have HM' : Hid (m' ∈ pows) := pow_next HM.out HN.out
              have Hb' : Hid (Below w2.heap.size w2 w3) := Hbel.out.trans (Hb3.out.mono Hbel.out.size)
              clear HN Hb3 HM Hbel
              go_wp2_with fail
              refine (f8 m' _ HM'.out).mono ?_
              rintro e w4 ⟨rfl, rfl⟩
              go_wp2
              go_roundw
              case rel => exact ⟨k + 1, by omega, by go_num, m', R', X, _, rfl, rfl, rfl, rfl, HM', hRb', HI', Hb'⟩
              case measure => simp [intOf]; omega
            have bk : ((k : Int) == 0) = false := by rw [beq_eq_false_iff_ne]; omega
            by_cases hXF : X < F
            · have hcase : k = 0 ∧ X = X ∨ 0 < k ∧ X < F ∧ X = X ∨ 0 < k ∧ ¬ X < F ∧ X = F := .inr (.inl ⟨by omega, hXF, rfl⟩)
              have HE : R' = X ∧ 0 ≤ X := inv_next HI.out HR'.out (by omega) hcase
              have hne : (R' != X) = false := by rw [HE.1]; simp
              have HI' : Hid (Inv (k + 1) R' X true) := fun _ => .inr ⟨by omega, HE.1, HE.2⟩
              clear HE hcase
              go_wp2_with fail
              refine (f7 _ M R X Y hM0 hM1 hX0 hX1 hRb R' HR').mono ?_
              rintro e w3 ⟨⟨m', rfl, HN⟩, Hb3⟩
              have HM' : Hid (m' ∈ pows) := pow_next HM.out HN.out
              have Hb' : Hid (Below w2.heap.size w2 w3) := Hbel.out.trans (Hb3.out.mono Hbel.out.size)
              clear HN Hb3 HM Hbel
              go_wp2_with fail
              refine (f8 m' _ HM'.out).mono ?_
              rintro e w4 ⟨rfl, rfl⟩
              go_wp2
              go_roundw
              case rel => exact ⟨k + 1, by omega, by go_num, m', R', X, _, rfl, rfl, rfl, rfl, HM', hRb', HI', Hb'⟩
              case measure => simp [intOf]; omega
            · have hcase : k = 0 ∧ F = X ∨ 0 < k ∧ X < F ∧ F = X ∨ 0 < k ∧ ¬ X < F ∧ F = F := .inr (.inr ⟨by omega, hXF, rfl⟩)
              have HE : R' = F ∧ 0 ≤ F := inv_next HI.out HR'.out (by omega) hcase
              have hne : (R' != F) = false := by rw [HE.1]; simp
              have HI' : Hid (Inv (k + 1) R' F true) := fun _ => .inr ⟨by omega, HE.1, HE.2⟩
              clear HE hcase
              go_wp2_with fail
              refine (f7 _ M R X Y hM0 hM1 hX0 hX1 hRb R' HR').mono ?_
              rintro e w3 ⟨⟨m', rfl, HN⟩, Hb3⟩
              have HM' : Hid (m' ∈ pows) := pow_next HM.out HN.out
              have Hb' : Hid (Below w2.heap.size w2 w3) := Hbel.out.trans (Hb3.out.mono Hbel.out.size)
              clear HN Hb3 HM Hbel
              go_wp2_with fail
              refine (f8 m' _ HM'.out).mono ?_
              rintro e w4 ⟨rfl, rfl⟩
              go_wp2
              go_roundw
              case rel => exact ⟨k + 1, by omega, by go_num, m', R', F, _, rfl, rfl, rfl, rfl, HM', hRb', HI', Hb'⟩
              case measure => simp [intOf]; omega
      · have HF : Hid (Below w'.heap.size w' wr) := Hw2.out.trans (Hbel.out.mono Hw2.out.size)
        go_wp2
        go_ret
        exact ⟨rfl, HF.out⟩
  · have hds : decide ((len1 : Int) < (len0 : Int)) = false := by simp; omega
    go_wp2
    go_loopw [6, 7, 8, 9, 10] (fun m r f b i wr => ∃ k : Nat, k ≤ len0 ∧ i = .int .i64 k ∧ ∃ (M R F : Int) (bb : Bool), m = .int .u64 M ∧ r = .int .i64 R ∧ f = .int .i64 F ∧ b = .bool bb ∧ Hid (M ∈ pows) ∧ R ≤ 9223372036854775807 ∧ Hid (Inv k R F bb) ∧ Hid (Below w2.heap.size w2 wr)) (fun _ _ _ _ i _ => len0 - (intOf i).toNat)
    case atStart => exact ⟨0, Nat.zero_le _, rfl, 1024, -1, -1, true, rfl, rfl, rfl, rfl, (by decide : (1024 : Int) ∈ pows), by omega, fun _ => .inl ⟨rfl, rfl⟩, Below.refl _ _⟩
    case round =>
      obtain ⟨k, hk, rfl, M, R, F, bb, rfl, rfl, rfl, rfl, HM, hRb, HI, Hbel⟩ := hrel
      by_cases hlt : k < len0
      · obtain ⟨hM0, hM1⟩ := pow_bd HM.out
        obtain ⟨g0, o0, rfl, hg0, hc0⟩ := HA0.out.resolve_left (by omega)
        obtain ⟨g1, o1, rfl, hg1, hc1⟩ := HA1.out.resolve_left (by omega)
        have hx : wr.cell? ⟨g0, o0 + k, none⟩ = some (.int .i64 (z0.getD k 0)) := by
          rw [Hbel.out.cell hg0]; exact hc0 k (by omega)
        have hy : wr.cell? ⟨g1, o1 + k, none⟩ = some (.int .i64 (z1.getD k 0)) := by
          rw [Hbel.out.cell hg1]; exact hc1 k (by omega)
        obtain ⟨hX0, hX1⟩ := HZ.out k
        clear hc0 hc1
        generalize z0.getD k 0 = X at *
        generalize z1.getD k 0 = Y at *
        obtain ⟨R', HR'⟩ : ∃ R', Hid (rt R X = R') := ⟨_, rfl⟩
        have hRb' : R' ≤ 9223372036854775807 := by rw [← HR'.out]; unfold rt; split <;> omega
        by_cases hneg : X < 0
        · cases bb
          · by_cases hk0 : k = 0
            · have bk : ((k : Int) == 0) = true := by rw [beq_iff_eq]; omega
              have HI' : Hid (Inv (k + 1) R' X false) := fun h => (by cases h)
              clear hk0
              go_wp2_with fail
              refine (f7 _ M R X Y hM0 hM1 hX0 hX1 hRb R' HR').mono ?_
              rintro e w3 ⟨⟨m', rfl, HN⟩, Hb3⟩
              have HM' : Hid (m' ∈ pows) := pow_next HM.out HN.out
              have Hb' : Hid (Below w2.heap.size w2 w3) := Hbel.out.trans (Hb3.out.mono Hbel.out.size)
              clear HN Hb3 HM Hbel
              go_wp2_with fail
              refine (f8 m' _ HM'.out).mono ?_
              rintro e w4 ⟨rfl, rfl⟩
              go_wp2
              go_roundw
              case rel => exact ⟨k + 1, by omega, by go_num, m', R', X, _, rfl, rfl, rfl, rfl, HM', hRb', HI', Hb'⟩
              case measure => simp [intOf]; omega
            have bk : ((k : Int) == 0) = false := by rw [beq_eq_false_iff_ne]; omega
            by_cases hXF : X < F
            · have HI' : Hid (Inv (k + 1) R' X false) := fun h => (by cases h)
              go_wp2_with fail
              refine (f7 _ M R X Y hM0 hM1 hX0 hX1 hRb R' HR').mono ?_
              rintro e w3 ⟨⟨m', rfl, HN⟩, Hb3⟩
              have HM' : Hid (m' ∈ pows) := pow_next HM.out HN.out
              have Hb' : Hid (Below w2.heap.size w2 w3) := Hbel.out.trans (Hb3.out.mono Hbel.out.size)
              clear HN Hb3 HM Hbel
              go_wp2_with fail
              refine (f8 m' _ HM'.out).mono ?_
              rintro e w4 ⟨rfl, rfl⟩
              go_wp2
              go_roundw
              case rel => exact ⟨k + 1, by omega, by go_num, m', R', X, _, rfl, rfl, rfl, rfl, HM', hRb', HI', Hb'⟩
              case measure => simp [intOf]; omega
            · have HI' : Hid (Inv (k + 1) R' F false) := fun h => (by cases h)
              go_wp2_with fail
              refine (f7 _ M R X Y hM0 hM1 hX0 hX1 hRb R' HR').mono ?_
              rintro e w3 ⟨⟨m', rfl, HN⟩, Hb3⟩
              have HM' : Hid (m' ∈ pows) := pow_next HM.out HN.out
              have Hb' : Hid (Below w2.heap.size w2 w3) := Hbel.out.trans (Hb3.out.mono Hbel.out.size)
              clear HN Hb3 HM Hbel
              go_wp2_with fail
              refine (f8 m' _ HM'.out).mono ?_
              rintro e w4 ⟨rfl, rfl⟩
              go_wp2
              go_roundw
              case rel => exact ⟨k + 1, by omega, by go_num, m', R', F, _, rfl, rfl, rfl, rfl, HM', hRb', HI', Hb'⟩
              case measure => simp [intOf]; omega
          · by_cases hk0 : k = 0
            · have bk : ((k : Int) == 0) = true := by rw [beq_iff_eq]; omega
              have HI' : Hid (Inv (k + 1) R' X false) := fun h => (by cases h)
              clear hk0
              go_wp2_with fail
              refine (f7 _ M R X Y hM0 hM1 hX0 hX1 hRb R' HR').mono ?_
              rintro e w3 ⟨⟨m', rfl, HN⟩, Hb3⟩
              have HM' : Hid (m' ∈ pows) := pow_next HM.out HN.out
              have Hb' : Hid (Below w2.heap.size w2 w3) := Hbel.out.trans (Hb3.out.mono Hbel.out.size)
              clear HN Hb3 HM Hbel
              go_wp2_with fail
              refine (f8 m' _ HM'.out).mono ?_
              rintro e w4 ⟨rfl, rfl⟩
              go_wp2
              go_roundw
              case rel => exact ⟨k + 1, by omega, by go_num, m', R', X, _, rfl, rfl, rfl, rfl, HM', hRb', HI', Hb'⟩
              case measure => simp [intOf]; omega
            have bk : ((k : Int) == 0) = false := by rw [beq_eq_false_iff_ne]; omega
            by_cases hXF : X < F
            · have HI' : Hid (Inv (k + 1) R' X false) := fun h => (by cases h)
              go_wp2_with fail
              refine (f7 _ M R X Y hM0 hM1 hX0 hX1 hRb R' HR').mono ?_
              rintro e w3 ⟨⟨m', rfl, HN⟩, Hb3⟩
              have HM' : Hid (m' ∈ pows) := pow_next HM.out HN.out
              have Hb' : Hid (Below w2.heap.size w2 w3) := Hbel.out.trans (Hb3.out.mono Hbel.out.size)
              clear HN Hb3 HM Hbel
              go_wp2_with fail
              refine (f8 m' _ HM'.out).mono ?_
              rintro e w4 ⟨rfl, rfl⟩
              go_wp2
              go_roundw
              case rel => exact ⟨k + 1, by omega, by go_num, m', R', X, _, rfl, rfl, rfl, rfl, HM', hRb', HI', Hb'⟩
              case measure => simp [intOf]; omega
            · have HI' : Hid (Inv (k + 1) R' F false) := fun h => (by cases h)
              go_wp2_with fail
              refine (f7 _ M R X Y hM0 hM1 hX0 hX1 hRb R' HR').mono ?_
              rintro e w3 ⟨⟨m', rfl, HN⟩, Hb3⟩
              have HM' : Hid (m' ∈ pows) := pow_next HM.out HN.out
              have Hb' : Hid (Below w2.heap.size w2 w3) := Hbel.out.trans (Hb3.out.mono Hbel.out.size)
              clear HN Hb3 HM Hbel
              go_wp2_with fail
              refine (f8 m' _ HM'.out).mono ?_
              rintro e w4 ⟨rfl, rfl⟩
              go_wp2
              go_roundw
              case rel => exact ⟨k + 1, by omega, by go_num, m', R', F, _, rfl, rfl, rfl, rfl, HM', hRb', HI', Hb'⟩
              case measure => simp [intOf]; omega
        · cases bb
          · by_cases hk0 : k = 0
            · have bk : ((k : Int) == 0) = true := by rw [beq_iff_eq]; omega
              have HI' : Hid (Inv (k + 1) R' X false) := fun h => (by cases h)
              clear hk0
              go_wp2_with fail
              refine (f7 _ M R X Y hM0 hM1 hX0 hX1 hRb R' HR').mono ?_
              rintro e w3 ⟨⟨m', rfl, HN⟩, Hb3⟩
              have HM' : Hid (m' ∈ pows) := pow_next HM.out HN.out
              have Hb' : Hid (Below w2.heap.size w2 w3) := Hbel.out.trans (Hb3.out.mono Hbel.out.size)
              clear HN Hb3 HM Hbel
              go_wp2_with fail
              refine (f8 m' _ HM'.out).mono ?_
              rintro e w4 ⟨rfl, rfl⟩
              go_wp2
              go_roundw
              case rel => exact ⟨k + 1, by omega, by go_num, m', R', X, _, rfl, rfl, rfl, rfl, HM', hRb', HI', Hb'⟩
              case measure => simp [intOf]; omega
            have bk : ((k : Int) == 0) = false := by rw [beq_eq_false_iff_ne]; omega
            by_cases hXF : X < F
            · have HI' : Hid (Inv (k + 1) R' X false) := fun h => (by cases h)
              go_wp2_with fail
              refine (f7 _ M R X Y hM0 hM1 hX0 hX1 hRb R' HR').mono ?_
              rintro e w3 ⟨⟨m', rfl, HN⟩, Hb3⟩
              have HM' : Hid (m' ∈ pows) := pow_next HM.out HN.out
              have Hb' : Hid (Below w2.heap.size w2 w3) := Hbel.out.trans (Hb3.out.mono Hbel.out.size)
              clear HN Hb3 HM Hbel
              go_wp2_with fail
              refine (f8 m' _ HM'.out).mono ?_
              rintro e w4 ⟨rfl, rfl⟩
              go_wp2
              go_roundw
              case rel => exact ⟨k + 1, by omega, by go_num, m', R', X, _, rfl, rfl, rfl, rfl, HM', hRb', HI', Hb'⟩
              case measure => simp [intOf]; omega
            · have HI' : Hid (Inv (k + 1) R' F false) := fun h => (by cases h)
              go_wp2_with fail
              refine (f7 _ M R X Y hM0 hM1 hX0 hX1 hRb R' HR').mono ?_
              rintro e w3 ⟨⟨m', rfl, HN⟩, Hb3⟩
              have HM' : Hid (m' ∈ pows) := pow_next HM.out HN.out
              have Hb' : Hid (Below w2.heap.size w2 w3) := Hbel.out.trans (Hb3.out.mono Hbel.out.size)
              clear HN Hb3 HM Hbel
              go_wp2_with fail
              refine (f8 m' _ HM'.out).mono ?_
              rintro e w4 ⟨rfl, rfl⟩
              go_wp2
              go_roundw
              case rel => exact ⟨k + 1, by omega, by go_num, m', R', F, _, rfl, rfl, rfl, rfl, HM', hRb', HI', Hb'⟩
              case measure => simp [intOf]; omega
          · by_cases hk0 : k = 0
            · have bk : ((k : Int) == 0) = true := by rw [beq_iff_eq]; omega
              have hcase : k = 0 ∧ X = X ∨ 0 < k ∧ X < F ∧ X = X ∨ 0 < k ∧ ¬ X < F ∧ X = F := .inl ⟨hk0, rfl⟩
              have HE : R' = X ∧ 0 ≤ X := inv_next HI.out HR'.out (by omega) hcase
              have hne : (R' != X) = false := by rw [HE.1]; simp
              have HI' : Hid (Inv (k + 1) R' X true) := fun _ => .inr ⟨by omega, HE.1, HE.2⟩
              clear HE hcase
              clear hk0
              go_wp2_with fail
              refine (f7 _ M R X Y hM0 hM1 hX0 hX1 hRb R' HR').mono ?_
              rintro e w3 ⟨⟨m', rfl, HN⟩, Hb3⟩
              have HM' : Hid (m' ∈ pows) := pow_next HM.out HN.out
              have Hb' : Hid (Below w2.heap.size w2 w3) := Hbel.out.trans (Hb3.out.mono Hbel.out.size)
              clear HN Hb3 HM Hbel
              go_wp2_with fail
              refine (f8 m' _ HM'.out).mono ?_
              rintro e w4 ⟨rfl, rfl⟩
              go_wp2
              go_roundw
              case rel => exact ⟨k + 1, by omega, by go_num, m', R', X, _, rfl, rfl, rfl, rfl, HM', hRb', HI', Hb'⟩
              case measure => simp [intOf]; omega
            have bk : ((k : Int) == 0) = false := by rw [beq_eq_false_iff_ne]; omega
            by_cases hXF : X < F
            · have hcase : k = 0 ∧ X = X ∨ 0 < k ∧ X < F ∧ X = X ∨ 0 < k ∧ ¬ X < F ∧ X = F := .inr (.inl ⟨by omega, hXF, rfl⟩)
              have HE : R' = X ∧ 0 ≤ X := inv_next HI.out HR'.out (by omega) hcase
              have hne : (R' != X) = false := by rw [HE.1]; simp
              have HI' : Hid (Inv (k + 1) R' X true) := fun _ => .inr ⟨by omega, HE.1, HE.2⟩
              clear HE hcase
              go_wp2_with fail
              refine (f7 _ M R X Y hM0 hM1 hX0 hX1 hRb R' HR').mono ?_
              rintro e w3 ⟨⟨m', rfl, HN⟩, Hb3⟩
              have HM' : Hid (m' ∈ pows) := pow_next HM.out HN.out
              have Hb' : Hid (Below w2.heap.size w2 w3) := Hbel.out.trans (Hb3.out.mono Hbel.out.size)
              clear HN Hb3 HM Hbel
              go_wp2_with fail
              refine (f8 m' _ HM'.out).mono ?_
              rintro e w4 ⟨rfl, rfl⟩
              go_wp2
              go_roundw
              case rel => exact ⟨k + 1, by omega, by go_num, m', R', X, _, rfl, rfl, rfl, rfl, HM', hRb', HI', Hb'⟩
              case measure => simp [intOf]; omega
            · have hcase : k = 0 ∧ F = X ∨ 0 < k ∧ X < F ∧ F = X ∨ 0 < k ∧ ¬ X < F ∧ F = F := .inr (.inr ⟨by omega, hXF, rfl⟩)
              have HE : R' = F ∧ 0 ≤ F := inv_next HI.out HR'.out (by omega) hcase
              have hne : (R' != F) = false := by rw [HE.1]; simp
              have HI' : Hid (Inv (k + 1) R' F true) := fun _ => .inr ⟨by omega, HE.1, HE.2⟩
              clear HE hcase
              go_wp2_with fail
              refine (f7 _ M R X Y hM0 hM1 hX0 hX1 hRb R' HR').mono ?_
              rintro e w3 ⟨⟨m', rfl, HN⟩, Hb3⟩
              have HM' : Hid (m' ∈ pows) := pow_next HM.out HN.out
              have Hb' : Hid (Below w2.heap.size w2 w3) := Hbel.out.trans (Hb3.out.mono Hbel.out.size)
              clear HN Hb3 HM Hbel
              go_wp2_with fail
              refine (f8 m' _ HM'.out).mono ?_
              rintro e w4 ⟨rfl, rfl⟩
              go_wp2
              go_roundw
              case rel => exact ⟨k + 1, by omega, by go_num, m', R', F, _, rfl, rfl, rfl, rfl, HM', hRb', HI', Hb'⟩
              case measure => simp [intOf]; omega
      · have HF : Hid (Below w'.heap.size w' wr) := Hw2.out.trans (Hbel.out.mono Hw2.out.size)
        go_wp2
        go_ret
        exact ⟨rfl, HF.out⟩

set_option maxHeartbeats 1000000 in
theorem walk (a0 : Option Addr) (len0 cap0 : Nat) (z0 : List Int) (a1 : Option Addr) (len1 cap1 : Nat) (z1 : List Int) (w : World) (w0 : IsRow .i64 w a0 len0 cap0 z0) (w1 : IsRow .i64 w a1 len1 cap1 z1) :
    Calls Try.prog 3 #[.slice a0 len0 cap0, .slice a1 len1 cap1] w fun e w' => e = .returned (.bool true) ∧ Below w.heap.size w w' := by
  have hm0 := w0.len
  have hm1 := w1.len
  by_cases hl0 : 65536 < len0
  · clear w0 w1
    go_enter Try.func3, Try.ntmps3
    go_wp2_with fail
    refine (f5 a0 len0 cap0 a1 len1 cap1 _ hm0 hm1).mono ?_
    rintro e w' ⟨⟨b5, rfl⟩, rfl⟩
    cases b5
    all_goals
      go_wp2
      go_ret
      exact ⟨rfl, Below.refl _ _⟩
  by_cases hl1 : 65536 < len1
  · clear w0 w1
    go_enter Try.func3, Try.ntmps3
    go_wp2_with fail
    refine (f5 a0 len0 cap0 a1 len1 cap1 _ hm0 hm1).mono ?_
    rintro e w' ⟨⟨b5, rfl⟩, rfl⟩
    cases b5
    all_goals
      go_wp2
      go_ret
      exact ⟨rfl, Below.refl _ _⟩
  exact mainWay a0 len0 cap0 z0 a1 len1 cap1 z1 w w0 w1 (by omega) (by omega)
end Go.Proofs.Qxb6602095a.fnLinkTimedScriptKeepsBounds
