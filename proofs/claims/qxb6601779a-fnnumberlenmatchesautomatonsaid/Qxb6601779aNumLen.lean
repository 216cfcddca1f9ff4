import Derived.Test.Qxb6601779aNumPlain
import Derived.Deep.DeepCutAuto
import Derived.Deep.CutBlock
namespace Go.Proofs.Qxb6601779a.fnNumberLenMatchesAutomaton
open Go.ChangeShapes Go.WideShapes Go.ChangeAt Go.RowKit bytesKit
set_option linter.unusedVariables false

/-- What the walk is told of the bytes at hand. -/
def Cells (w : World) (g off n : Nat) (z : Nat → Int) : Prop := ∀ i, i < n → w.cell? ⟨g, off + i, none⟩ = some (.int .u8 (z i))

theorem cells_from {w : World} {g off n p : Nat} {z : Nat → Int} (h : Cells w g off n z) : n - p = 0 ∨ ∃ g' off', (some ⟨g, off + p, none⟩ : Option Addr) = some ⟨g', off', none⟩ ∧ ∀ i, i < n - p → w.cell? ⟨g', off' + i, none⟩ = some (.int .u8 (z (p + i))) :=
  .inr ⟨g, off + p, rfl, fun i hi => by rw [Nat.add_assoc]; exact h (p + i) (by omega)⟩

theorem dg_zero {z : Nat → Int} {n q : Nat} (h : n ≤ q) : Dg (fun i => z (q + i)) (n - q) 0 := ⟨Nat.zero_le _, fun j hj => by omega, fun hlt => by omega⟩

set_option maxRecDepth 100000 in
set_option maxHeartbeats 4000000 in
theorem f11 (g off n : Nat) (z : Nat → Int) (w : World) (hn : n ≤ 1048576) (hn0 : 0 < n) (hc : Hid (Cells w g off n z)) (p : Nat)
    (hm : p = 0 ∧ (z 0 == 45) = false ∨ p = 1 ∧ (z 0 == 45) = true) (hs1 : Hid (S1 z n p)) :
    Calls Try.prog 11 #[.slice (some ⟨g, off, none⟩) n n] w fun e w' => (∃ N, e = .returned (.int .i64 N) ∧ Hid (Res z n N)) ∧ w' = w := by
  have hcell0 := hc.out 0 hn0
  rw [Nat.add_zero] at hcell0
  rcases hm with ⟨rfl, hm⟩ | ⟨rfl, hm⟩
  · go_enter Try.func11, Try.ntmps11
    go_upto_block 0 with fail
    go_cut [3] from 6 (fun v wc => wc = w ∧ ∃ p : Nat, v = .int .i64 p ∧ Hid (S2 z n p))
    case first =>
      by_cases h48 : z 0 = 48
      · have b48 : (z 0 == 48) = true := by rw [beq_iff_eq]; exact h48
        have HS : Hid (S2 z n (0 + 1)) := s1_zero hs1.out hn0 h48
        clear h48
        go_wp2
        go_meet
        case rel => exact ⟨rfl, 0 + 1, rfl, HS⟩
      have b48 : (z 0 == 48) = false := by rw [beq_eq_false_iff_ne]; exact h48
      by_cases h1 : 49 ≤ z 0
      · by_cases h2 : z 0 ≤ 57
        · go_wp2_with fail
          refine (f24 _ n n z _ hn (by exact .inr ⟨g, off, rfl, hc.out⟩)).mono ?_
          rintro e w' ⟨⟨d, rfl, hd⟩, rfl⟩
          have hdn : d ≤ n := hd.out.1
          have HS : Hid (S2 z n (0 + d)) := s1_digits hs1.out hn0 h1 h2 (by simpa using hd.out)
          go_wp2
          go_meet
          case rel => exact ⟨rfl, 0 + d, by go_num, HS⟩
        · have HR : Hid (Res z n 0) := s1_fail hs1.out (fun _ => by omega)
          go_wp2
          go_ret
          exact ⟨⟨_, rfl, HR⟩, rfl⟩
      · have HR : Hid (Res z n 0) := s1_fail hs1.out (fun _ => by omega)
        go_wp2
        go_ret
        exact ⟨⟨_, rfl, HR⟩, rfl⟩
    case rest =>
      obtain ⟨rfl, p, rfl, hs2⟩ := hcut
      have hpn : p ≤ n := hs2.out.1.1
      clear hm hcell0 hs1
      go_step
      go_step
      go_cut [3] from 6 (fun v wd => wd = wc ∧ ∃ p : Nat, v = .int .i64 p ∧ Hid (S3 z n p))
      case first =>
        by_cases hp : p < n
        · have hcp := hc.out p hp
          by_cases h46 : z p = 46
          · have b46 : (z p == 46) = true := by rw [beq_iff_eq]; exact h46
            have H46 : Hid (z p = 46) := h46
            clear h46
            by_cases hq : p + 1 < n
            · go_wp2_with fail
              refine (f24 _ _ _ (fun i => z (p + 1 + i)) _ (by omega) (by exact cells_from (p := p + 1) hc.out)).mono ?_
              rintro e w' ⟨⟨d, rfl, hd⟩, rfl⟩
              have hdn : d ≤ n - (p + 1) := hd.out.1
              by_cases hd0 : d = 0
              · have bd : ((d : Int) == 0) = true := by rw [beq_iff_eq]; omega
                have HR : Hid (Res z n 0) := s2_dot0 hs2.out hp H46.out (by rw [hd0] at hd; exact hd.out)
                clear hd0
                go_wp2
                go_ret
                exact ⟨⟨_, rfl, HR⟩, rfl⟩
              · have bd : ((d : Int) == 0) = false := by rw [beq_eq_false_iff_ne]; omega
                have HS : Hid (S3 z n (p + 1 + d)) := s2_dotd hs2.out hp H46.out hd.out (by omega)
                clear hd0
                go_wp2
                go_meet
                case rel => exact ⟨rfl, p + 1 + d, by go_num, HS⟩
            · go_wp2_with fail
              refine (f24 _ _ _ (fun _ => 0) _ (by omega) (by exact .inl (by omega))).mono ?_
              rintro e w' ⟨⟨d, rfl, hd⟩, rfl⟩
              have hd0 : d = 0 := by have := hd.out.1; omega
              subst hd0
              have HR : Hid (Res z n 0) := s2_dot0 hs2.out hp H46.out (dg_zero (by omega))
              go_wp2
              go_ret
              exact ⟨⟨_, rfl, HR⟩, rfl⟩
          · have b46 : (z p == 46) = false := by rw [beq_eq_false_iff_ne]; exact h46
            have HS : Hid (S3 z n p) := s2_none hs2.out (fun _ => h46)
            clear h46
            go_wp2
            go_meet
            case rel => exact ⟨rfl, p, rfl, HS⟩
        · have HS : Hid (S3 z n p) := s2_none hs2.out (fun h => absurd h hp)
          go_wp2
          go_meet
          case rel => exact ⟨rfl, p, rfl, HS⟩
      case rest =>
        clear hpn hs2
        obtain ⟨rfl, p, rfl, hs3⟩ := hcut
        have hpn : p ≤ n := hs3.out.1.1
        by_cases hp : p < n
        · have hcp := hc.out p hp
          by_cases he : z p = 101 ∨ z p = 69
          · have He : Hid (z p = 101 ∨ z p = 69) := he
            by_cases h101 : z p = 101
            · have b101 : (z p == 101) = true := by rw [beq_iff_eq]; exact h101
              clear he h101
              by_cases hq : p + 1 < n
              · have hcq := hc.out (p + 1) hq
                by_cases hsg : z (p + 1) = 43 ∨ z (p + 1) = 45
                · have hs4 : Hid (S4 z n (p + 2)) := s3_sign hs3.out hp He.out hq hsg
                  by_cases h43 : z (p + 1) = 43
                  · have b43 : (z (p + 1) == 43) = true := by rw [beq_iff_eq]; exact h43
                    clear hsg h43
                    by_cases hr : p + 2 < n
                    · go_wp2_with fail
                      refine (f24 _ _ _ (fun i => z (p + 2 + i)) _ (by omega) (by exact cells_from (p := p + 2) hc.out)).mono ?_
                      rintro e w' ⟨⟨d, rfl, hd⟩, rfl⟩
                      have hdn : d ≤ n - (p + 2) := hd.out.1
                      by_cases hd0 : d = 0
                      · have bd : ((d : Int) == 0) = true := by rw [beq_iff_eq]; omega
                        have HR : Hid (Res z n 0) := s4_none hs4.out (by rw [hd0] at hd; exact hd.out)
                        clear hd0
                        go_wp2
                        go_ret
                        exact ⟨⟨_, rfl, HR⟩, rfl⟩
                      · have bd : ((d : Int) == 0) = false := by rw [beq_eq_false_iff_ne]; omega
                        have HR : Hid (Res z n ((p + 2 + d : Nat) : Int)) := s4_digits hs4.out hd.out (by omega)
                        clear hd0
                        go_wp2
                        go_ret
                        exact ⟨⟨_, ret_int (by omega), HR⟩, rfl⟩
                    · go_wp2_with fail
                      refine (f24 _ _ _ (fun _ => 0) _ (by omega) (by exact .inl (by omega))).mono ?_
                      rintro e w' ⟨⟨d, rfl, hd⟩, rfl⟩
                      have hd0 : d = 0 := by have := hd.out.1; omega
                      subst hd0
                      have HR : Hid (Res z n 0) := s4_none hs4.out (dg_zero (by omega))
                      go_wp2
                      go_ret
                      exact ⟨⟨_, rfl, HR⟩, rfl⟩
                  · have b43 : (z (p + 1) == 43) = false := by rw [beq_eq_false_iff_ne]; exact h43
                    have b45 : (z (p + 1) == 45) = true := by rw [beq_iff_eq]; exact hsg.resolve_left h43
                    clear hsg h43
                    by_cases hr : p + 2 < n
                    · go_wp2_with fail
                      refine (f24 _ _ _ (fun i => z (p + 2 + i)) _ (by omega) (by exact cells_from (p := p + 2) hc.out)).mono ?_
                      rintro e w' ⟨⟨d, rfl, hd⟩, rfl⟩
                      have hdn : d ≤ n - (p + 2) := hd.out.1
                      by_cases hd0 : d = 0
                      · have bd : ((d : Int) == 0) = true := by rw [beq_iff_eq]; omega
                        have HR : Hid (Res z n 0) := s4_none hs4.out (by rw [hd0] at hd; exact hd.out)
                        clear hd0
                        go_wp2
                        go_ret
                        exact ⟨⟨_, rfl, HR⟩, rfl⟩
                      · have bd : ((d : Int) == 0) = false := by rw [beq_eq_false_iff_ne]; omega
                        have HR : Hid (Res z n ((p + 2 + d : Nat) : Int)) := s4_digits hs4.out hd.out (by omega)
                        clear hd0
                        go_wp2
                        go_ret
                        exact ⟨⟨_, ret_int (by omega), HR⟩, rfl⟩
                    · go_wp2_with fail
                      refine (f24 _ _ _ (fun _ => 0) _ (by omega) (by exact .inl (by omega))).mono ?_
                      rintro e w' ⟨⟨d, rfl, hd⟩, rfl⟩
                      have hd0 : d = 0 := by have := hd.out.1; omega
                      subst hd0
                      have HR : Hid (Res z n 0) := s4_none hs4.out (dg_zero (by omega))
                      go_wp2
                      go_ret
                      exact ⟨⟨_, rfl, HR⟩, rfl⟩
                · have hs4 : Hid (S4 z n (p + 1)) := s3_plain hs3.out hp He.out (fun _ => hsg)
                  have b43 : (z (p + 1) == 43) = false := by rw [beq_eq_false_iff_ne]; exact fun h => hsg (.inl h)
                  have b45 : (z (p + 1) == 45) = false := by rw [beq_eq_false_iff_ne]; exact fun h => hsg (.inr h)
                  clear hsg
                  go_wp2_with fail
                  refine (f24 _ _ _ (fun i => z (p + 1 + i)) _ (by omega) (by exact cells_from (p := p + 1) hc.out)).mono ?_
                  rintro e w' ⟨⟨d, rfl, hd⟩, rfl⟩
                  have hdn : d ≤ n - (p + 1) := hd.out.1
                  by_cases hd0 : d = 0
                  · have bd : ((d : Int) == 0) = true := by rw [beq_iff_eq]; omega
                    have HR : Hid (Res z n 0) := s4_none hs4.out (by rw [hd0] at hd; exact hd.out)
                    clear hd0
                    go_wp2
                    go_ret
                    exact ⟨⟨_, rfl, HR⟩, rfl⟩
                  · have bd : ((d : Int) == 0) = false := by rw [beq_eq_false_iff_ne]; omega
                    have HR : Hid (Res z n ((p + 1 + d : Nat) : Int)) := s4_digits hs4.out hd.out (by omega)
                    clear hd0
                    go_wp2
                    go_ret
                    exact ⟨⟨_, ret_int (by omega), HR⟩, rfl⟩
              · have hs4 : Hid (S4 z n (p + 1)) := s3_plain hs3.out hp He.out (fun h => absurd h hq)
                go_wp2_with fail
                refine (f24 _ _ _ (fun _ => 0) _ (by omega) (by exact .inl (by omega))).mono ?_
                rintro e w' ⟨⟨d, rfl, hd⟩, rfl⟩
                have hd0 : d = 0 := by have := hd.out.1; omega
                subst hd0
                have HR : Hid (Res z n 0) := s4_none hs4.out (dg_zero (by omega))
                go_wp2
                go_ret
                exact ⟨⟨_, rfl, HR⟩, rfl⟩
            · have b101 : (z p == 101) = false := by rw [beq_eq_false_iff_ne]; exact h101
              have b69 : (z p == 69) = true := by rw [beq_iff_eq]; exact he.resolve_left h101
              clear he h101
              by_cases hq : p + 1 < n
              · have hcq := hc.out (p + 1) hq
                by_cases hsg : z (p + 1) = 43 ∨ z (p + 1) = 45
                · have hs4 : Hid (S4 z n (p + 2)) := s3_sign hs3.out hp He.out hq hsg
                  by_cases h43 : z (p + 1) = 43
                  · have b43 : (z (p + 1) == 43) = true := by rw [beq_iff_eq]; exact h43
                    clear hsg h43
                    by_cases hr : p + 2 < n
                    · go_wp2_with fail
                      refine (f24 _ _ _ (fun i => z (p + 2 + i)) _ (by omega) (by exact cells_from (p := p + 2) hc.out)).mono ?_
                      rintro e w' ⟨⟨d, rfl, hd⟩, rfl⟩
                      have hdn : d ≤ n - (p + 2) := hd.out.1
                      by_cases hd0 : d = 0
                      · have bd : ((d : Int) == 0) = true := by rw [beq_iff_eq]; omega
                        have HR : Hid (Res z n 0) := s4_none hs4.out (by rw [hd0] at hd; exact hd.out)
                        clear hd0
                        go_wp2
                        go_ret
                        exact ⟨⟨_, rfl, HR⟩, rfl⟩
                      · have bd : ((d : Int) == 0) = false := by rw [beq_eq_false_iff_ne]; omega
                        have HR : Hid (Res z n ((p + 2 + d : Nat) : Int)) := s4_digits hs4.out hd.out (by omega)
                        clear hd0
                        go_wp2
                        go_ret
                        exact ⟨⟨_, ret_int (by omega), HR⟩, rfl⟩
                    · go_wp2_with fail
                      refine (f24 _ _ _ (fun _ => 0) _ (by omega) (by exact .inl (by omega))).mono ?_
                      rintro e w' ⟨⟨d, rfl, hd⟩, rfl⟩
                      have hd0 : d = 0 := by have := hd.out.1; omega
                      subst hd0
                      have HR : Hid (Res z n 0) := s4_none hs4.out (dg_zero (by omega))
                      go_wp2
                      go_ret
                      exact ⟨⟨_, rfl, HR⟩, rfl⟩
                  · have b43 : (z (p + 1) == 43) = false := by rw [beq_eq_false_iff_ne]; exact h43
                    have b45 : (z (p + 1) == 45) = true := by rw [beq_iff_eq]; exact hsg.resolve_left h43
                    clear hsg h43
                    by_cases hr : p + 2 < n
                    · go_wp2_with fail
                      refine (f24 _ _ _ (fun i => z (p + 2 + i)) _ (by omega) (by exact cells_from (p := p + 2) hc.out)).mono ?_
                      rintro e w' ⟨⟨d, rfl, hd⟩, rfl⟩
                      have hdn : d ≤ n - (p + 2) := hd.out.1
                      by_cases hd0 : d = 0
                      · have bd : ((d : Int) == 0) = true := by rw [beq_iff_eq]; omega
                        have HR : Hid (Res z n 0) := s4_none hs4.out (by rw [hd0] at hd; exact hd.out)
                        clear hd0
                        go_wp2
                        go_ret
                        exact ⟨⟨_, rfl, HR⟩, rfl⟩
                      · have bd : ((d : Int) == 0) = false := by rw [beq_eq_false_iff_ne]; omega
                        have HR : Hid (Res z n ((p + 2 + d : Nat) : Int)) := s4_digits hs4.out hd.out (by omega)
                        clear hd0
                        go_wp2
                        go_ret
                        exact ⟨⟨_, ret_int (by omega), HR⟩, rfl⟩
                    · go_wp2_with fail
                      refine (f24 _ _ _ (fun _ => 0) _ (by omega) (by exact .inl (by omega))).mono ?_
                      rintro e w' ⟨⟨d, rfl, hd⟩, rfl⟩
                      have hd0 : d = 0 := by have := hd.out.1; omega
                      subst hd0
                      have HR : Hid (Res z n 0) := s4_none hs4.out (dg_zero (by omega))
                      go_wp2
                      go_ret
                      exact ⟨⟨_, rfl, HR⟩, rfl⟩
                · have hs4 : Hid (S4 z n (p + 1)) := s3_plain hs3.out hp He.out (fun _ => hsg)
                  have b43 : (z (p + 1) == 43) = false := by rw [beq_eq_false_iff_ne]; exact fun h => hsg (.inl h)
                  have b45 : (z (p + 1) == 45) = false := by rw [beq_eq_false_iff_ne]; exact fun h => hsg (.inr h)
                  clear hsg
                  go_wp2_with fail
                  refine (f24 _ _ _ (fun i => z (p + 1 + i)) _ (by omega) (by exact cells_from (p := p + 1) hc.out)).mono ?_
                  rintro e w' ⟨⟨d, rfl, hd⟩, rfl⟩
                  have hdn : d ≤ n - (p + 1) := hd.out.1
                  by_cases hd0 : d = 0
                  · have bd : ((d : Int) == 0) = true := by rw [beq_iff_eq]; omega
                    have HR : Hid (Res z n 0) := s4_none hs4.out (by rw [hd0] at hd; exact hd.out)
                    clear hd0
                    go_wp2
                    go_ret
                    exact ⟨⟨_, rfl, HR⟩, rfl⟩
                  · have bd : ((d : Int) == 0) = false := by rw [beq_eq_false_iff_ne]; omega
                    have HR : Hid (Res z n ((p + 1 + d : Nat) : Int)) := s4_digits hs4.out hd.out (by omega)
                    clear hd0
                    go_wp2
                    go_ret
                    exact ⟨⟨_, ret_int (by omega), HR⟩, rfl⟩
              · have hs4 : Hid (S4 z n (p + 1)) := s3_plain hs3.out hp He.out (fun h => absurd h hq)
                go_wp2_with fail
                refine (f24 _ _ _ (fun _ => 0) _ (by omega) (by exact .inl (by omega))).mono ?_
                rintro e w' ⟨⟨d, rfl, hd⟩, rfl⟩
                have hd0 : d = 0 := by have := hd.out.1; omega
                subst hd0
                have HR : Hid (Res z n 0) := s4_none hs4.out (dg_zero (by omega))
                go_wp2
                go_ret
                exact ⟨⟨_, rfl, HR⟩, rfl⟩
          · have HR : Hid (Res z n p) := s3_end hs3.out (fun _ => he)
            have b101 : (z p == 101) = false := by rw [beq_eq_false_iff_ne]; exact fun h => he (.inl h)
            have b69 : (z p == 69) = false := by rw [beq_eq_false_iff_ne]; exact fun h => he (.inr h)
            clear he
            go_wp2
            go_ret
            exact ⟨⟨_, rfl, HR⟩, rfl⟩
        · have HR : Hid (Res z n p) := s3_end hs3.out (fun h => absurd h hp)
          go_wp2
          go_ret
          exact ⟨⟨_, rfl, HR⟩, rfl⟩
  · go_enter Try.func11, Try.ntmps11
    go_upto_block 0 with fail
    go_cut [3] from 6 (fun v wc => wc = w ∧ ∃ p : Nat, v = .int .i64 p ∧ Hid (S2 z n p))
    case first =>
      by_cases hp1 : 1 < n
      · have hcell1 := hc.out 1 hp1
        by_cases h48 : z 1 = 48
        · have b48 : (z 1 == 48) = true := by rw [beq_iff_eq]; exact h48
          have HS : Hid (S2 z n (1 + 1)) := s1_zero hs1.out hp1 h48
          clear h48
          go_wp2
          go_meet
          case rel => exact ⟨rfl, 1 + 1, rfl, HS⟩
        have b48 : (z 1 == 48) = false := by rw [beq_eq_false_iff_ne]; exact h48
        by_cases h1 : 49 ≤ z 1
        · by_cases h2 : z 1 ≤ 57
          · go_wp2_with fail
            refine (f24 _ _ _ (fun i => z (1 + i)) _ (by omega) (by exact cells_from (p := 1) hc.out)).mono ?_
            rintro e w' ⟨⟨d, rfl, hd⟩, rfl⟩
            have hdn : d ≤ n - 1 := hd.out.1
            have HS : Hid (S2 z n (1 + d)) := s1_digits hs1.out hp1 h1 h2 hd.out
            go_wp2
            go_meet
            case rel => exact ⟨rfl, 1 + d, by go_num, HS⟩
          · have HR : Hid (Res z n 0) := s1_fail hs1.out (fun _ => by omega)
            go_wp2
            go_ret
            exact ⟨⟨_, rfl, HR⟩, rfl⟩
        · have HR : Hid (Res z n 0) := s1_fail hs1.out (fun _ => by omega)
          go_wp2
          go_ret
          exact ⟨⟨_, rfl, HR⟩, rfl⟩
      · have HR : Hid (Res z n 0) := s1_fail hs1.out (fun h => absurd h hp1)
        go_wp2
        go_ret
        exact ⟨⟨_, rfl, HR⟩, rfl⟩
    case rest =>
      obtain ⟨rfl, p, rfl, hs2⟩ := hcut
      have hpn : p ≤ n := hs2.out.1.1
      clear hm hcell0 hs1
      go_step
      go_step
      go_cut [3] from 6 (fun v wd => wd = wc ∧ ∃ p : Nat, v = .int .i64 p ∧ Hid (S3 z n p))
      case first =>
        by_cases hp : p < n
        · have hcp := hc.out p hp
          by_cases h46 : z p = 46
          · have b46 : (z p == 46) = true := by rw [beq_iff_eq]; exact h46
            have H46 : Hid (z p = 46) := h46
            clear h46
            by_cases hq : p + 1 < n
            · go_wp2_with fail
              refine (f24 _ _ _ (fun i => z (p + 1 + i)) _ (by omega) (by exact cells_from (p := p + 1) hc.out)).mono ?_
              rintro e w' ⟨⟨d, rfl, hd⟩, rfl⟩
              have hdn : d ≤ n - (p + 1) := hd.out.1
              by_cases hd0 : d = 0
              · have bd : ((d : Int) == 0) = true := by rw [beq_iff_eq]; omega
                have HR : Hid (Res z n 0) := s2_dot0 hs2.out hp H46.out (by rw [hd0] at hd; exact hd.out)
                clear hd0
                go_wp2
                go_ret
                exact ⟨⟨_, rfl, HR⟩, rfl⟩
              · have bd : ((d : Int) == 0) = false := by rw [beq_eq_false_iff_ne]; omega
                have HS : Hid (S3 z n (p + 1 + d)) := s2_dotd hs2.out hp H46.out hd.out (by omega)
                clear hd0
                go_wp2
                go_meet
                case rel => exact ⟨rfl, p + 1 + d, by go_num, HS⟩
            · go_wp2_with fail
              refine (f24 _ _ _ (fun _ => 0) _ (by omega) (by exact .inl (by omega))).mono ?_
              rintro e w' ⟨⟨d, rfl, hd⟩, rfl⟩
              have hd0 : d = 0 := by have := hd.out.1; omega
              subst hd0
              have HR : Hid (Res z n 0) := s2_dot0 hs2.out hp H46.out (dg_zero (by omega))
              go_wp2
              go_ret
              exact ⟨⟨_, rfl, HR⟩, rfl⟩
          · have b46 : (z p == 46) = false := by rw [beq_eq_false_iff_ne]; exact h46
            have HS : Hid (S3 z n p) := s2_none hs2.out (fun _ => h46)
            clear h46
            go_wp2
            go_meet
            case rel => exact ⟨rfl, p, rfl, HS⟩
        · have HS : Hid (S3 z n p) := s2_none hs2.out (fun h => absurd h hp)
          go_wp2
          go_meet
          case rel => exact ⟨rfl, p, rfl, HS⟩
      case rest =>
        clear hpn hs2
        obtain ⟨rfl, p, rfl, hs3⟩ := hcut
        have hpn : p ≤ n := hs3.out.1.1
        by_cases hp : p < n
        · have hcp := hc.out p hp
          by_cases he : z p = 101 ∨ z p = 69
          · have He : Hid (z p = 101 ∨ z p = 69) := he
            by_cases h101 : z p = 101
            · have b101 : (z p == 101) = true := by rw [beq_iff_eq]; exact h101
              clear he h101
              by_cases hq : p + 1 < n
              · have hcq := hc.out (p + 1) hq
                by_cases hsg : z (p + 1) = 43 ∨ z (p + 1) = 45
                · have hs4 : Hid (S4 z n (p + 2)) := s3_sign hs3.out hp He.out hq hsg
                  by_cases h43 : z (p + 1) = 43
                  · have b43 : (z (p + 1) == 43) = true := by rw [beq_iff_eq]; exact h43
                    clear hsg h43
                    by_cases hr : p + 2 < n
                    · go_wp2_with fail
                      refine (f24 _ _ _ (fun i => z (p + 2 + i)) _ (by omega) (by exact cells_from (p := p + 2) hc.out)).mono ?_
                      rintro e w' ⟨⟨d, rfl, hd⟩, rfl⟩
                      have hdn : d ≤ n - (p + 2) := hd.out.1
                      by_cases hd0 : d = 0
                      · have bd : ((d : Int) == 0) = true := by rw [beq_iff_eq]; omega
                        have HR : Hid (Res z n 0) := s4_none hs4.out (by rw [hd0] at hd; exact hd.out)
                        clear hd0
                        go_wp2
                        go_ret
                        exact ⟨⟨_, rfl, HR⟩, rfl⟩
                      · have bd : ((d : Int) == 0) = false := by rw [beq_eq_false_iff_ne]; omega
                        have HR : Hid (Res z n ((p + 2 + d : Nat) : Int)) := s4_digits hs4.out hd.out (by omega)
                        clear hd0
                        go_wp2
                        go_ret
                        exact ⟨⟨_, ret_int (by omega), HR⟩, rfl⟩
                    · go_wp2_with fail
                      refine (f24 _ _ _ (fun _ => 0) _ (by omega) (by exact .inl (by omega))).mono ?_
                      rintro e w' ⟨⟨d, rfl, hd⟩, rfl⟩
                      have hd0 : d = 0 := by have := hd.out.1; omega
                      subst hd0
                      have HR : Hid (Res z n 0) := s4_none hs4.out (dg_zero (by omega))
                      go_wp2
                      go_ret
                      exact ⟨⟨_, rfl, HR⟩, rfl⟩
                  · have b43 : (z (p + 1) == 43) = false := by rw [beq_eq_false_iff_ne]; exact h43
                    have b45 : (z (p + 1) == 45) = true := by rw [beq_iff_eq]; exact hsg.resolve_left h43
                    clear hsg h43
                    by_cases hr : p + 2 < n
                    · go_wp2_with fail
                      refine (f24 _ _ _ (fun i => z (p + 2 + i)) _ (by omega) (by exact cells_from (p := p + 2) hc.out)).mono ?_
                      rintro e w' ⟨⟨d, rfl, hd⟩, rfl⟩
                      have hdn : d ≤ n - (p + 2) := hd.out.1
                      by_cases hd0 : d = 0
                      · have bd : ((d : Int) == 0) = true := by rw [beq_iff_eq]; omega
                        have HR : Hid (Res z n 0) := s4_none hs4.out (by rw [hd0] at hd; exact hd.out)
                        clear hd0
                        go_wp2
                        go_ret
                        exact ⟨⟨_, rfl, HR⟩, rfl⟩
                      · have bd : ((d : Int) == 0) = false := by rw [beq_eq_false_iff_ne]; omega
                        have HR : Hid (Res z n ((p + 2 + d : Nat) : Int)) := s4_digits hs4.out hd.out (by omega)
                        clear hd0
                        go_wp2
                        go_ret
                        exact ⟨⟨_, ret_int (by omega), HR⟩, rfl⟩
                    · go_wp2_with fail
                      refine (f24 _ _ _ (fun _ => 0) _ (by omega) (by exact .inl (by omega))).mono ?_
                      rintro e w' ⟨⟨d, rfl, hd⟩, rfl⟩
                      have hd0 : d = 0 := by have := hd.out.1; omega
                      subst hd0
                      have HR : Hid (Res z n 0) := s4_none hs4.out (dg_zero (by omega))
                      go_wp2
                      go_ret
                      exact ⟨⟨_, rfl, HR⟩, rfl⟩
                · have hs4 : Hid (S4 z n (p + 1)) := s3_plain hs3.out hp He.out (fun _ => hsg)
                  have b43 : (z (p + 1) == 43) = false := by rw [beq_eq_false_iff_ne]; exact fun h => hsg (.inl h)
                  have b45 : (z (p + 1) == 45) = false := by rw [beq_eq_false_iff_ne]; exact fun h => hsg (.inr h)
                  clear hsg
                  go_wp2_with fail
                  refine (f24 _ _ _ (fun i => z (p + 1 + i)) _ (by omega) (by exact cells_from (p := p + 1) hc.out)).mono ?_
                  rintro e w' ⟨⟨d, rfl, hd⟩, rfl⟩
                  have hdn : d ≤ n - (p + 1) := hd.out.1
                  by_cases hd0 : d = 0
                  · have bd : ((d : Int) == 0) = true := by rw [beq_iff_eq]; omega
                    have HR : Hid (Res z n 0) := s4_none hs4.out (by rw [hd0] at hd; exact hd.out)
                    clear hd0
                    go_wp2
                    go_ret
                    exact ⟨⟨_, rfl, HR⟩, rfl⟩
                  · have bd : ((d : Int) == 0) = false := by rw [beq_eq_false_iff_ne]; omega
                    have HR : Hid (Res z n ((p + 1 + d : Nat) : Int)) := s4_digits hs4.out hd.out (by omega)
                    clear hd0
                    go_wp2
                    go_ret
                    exact ⟨⟨_, ret_int (by omega), HR⟩, rfl⟩
              · have hs4 : Hid (S4 z n (p + 1)) := s3_plain hs3.out hp He.out (fun h => absurd h hq)
                go_wp2_with fail
                refine (f24 _ _ _ (fun _ => 0) _ (by omega) (by exact .inl (by omega))).mono ?_
                rintro e w' ⟨⟨d, rfl, hd⟩, rfl⟩
                have hd0 : d = 0 := by have := hd.out.1; omega
                subst hd0
                have HR : Hid (Res z n 0) := s4_none hs4.out (dg_zero (by omega))
                go_wp2
                go_ret
                exact ⟨⟨_, rfl, HR⟩, rfl⟩
            · have b101 : (z p == 101) = false := by rw [beq_eq_false_iff_ne]; exact h101
              have b69 : (z p == 69) = true := by rw [beq_iff_eq]; exact he.resolve_left h101
              clear he h101
              by_cases hq : p + 1 < n
              · have hcq := hc.out (p + 1) hq
                by_cases hsg : z (p + 1) = 43 ∨ z (p + 1) = 45
                · have hs4 : Hid (S4 z n (p + 2)) := s3_sign hs3.out hp He.out hq hsg
                  by_cases h43 : z (p + 1) = 43
                  · have b43 : (z (p + 1) == 43) = true := by rw [beq_iff_eq]; exact h43
                    clear hsg h43
                    by_cases hr : p + 2 < n
                    · go_wp2_with fail
                      refine (f24 _ _ _ (fun i => z (p + 2 + i)) _ (by omega) (by exact cells_from (p := p + 2) hc.out)).mono ?_
                      rintro e w' ⟨⟨d, rfl, hd⟩, rfl⟩
                      have hdn : d ≤ n - (p + 2) := hd.out.1
                      by_cases hd0 : d = 0
                      · have bd : ((d : Int) == 0) = true := by rw [beq_iff_eq]; omega
                        have HR : Hid (Res z n 0) := s4_none hs4.out (by rw [hd0] at hd; exact hd.out)
                        clear hd0
                        go_wp2
                        go_ret
                        exact ⟨⟨_, rfl, HR⟩, rfl⟩
                      · have bd : ((d : Int) == 0) = false := by rw [beq_eq_false_iff_ne]; omega
                        have HR : Hid (Res z n ((p + 2 + d : Nat) : Int)) := s4_digits hs4.out hd.out (by omega)
                        clear hd0
                        go_wp2
                        go_ret
                        exact ⟨⟨_, ret_int (by omega), HR⟩, rfl⟩
                    · go_wp2_with fail
                      refine (f24 _ _ _ (fun _ => 0) _ (by omega) (by exact .inl (by omega))).mono ?_
                      rintro e w' ⟨⟨d, rfl, hd⟩, rfl⟩
                      have hd0 : d = 0 := by have := hd.out.1; omega
                      subst hd0
                      have HR : Hid (Res z n 0) := s4_none hs4.out (dg_zero (by omega))
                      go_wp2
                      go_ret
                      exact ⟨⟨_, rfl, HR⟩, rfl⟩
                  · have b43 : (z (p + 1) == 43) = false := by rw [beq_eq_false_iff_ne]; exact h43
                    have b45 : (z (p + 1) == 45) = true := by rw [beq_iff_eq]; exact hsg.resolve_left h43
                    clear hsg h43
                    by_cases hr : p + 2 < n
                    · go_wp2_with fail
                      refine (f24 _ _ _ (fun i => z (p + 2 + i)) _ (by omega) (by exact cells_from (p := p + 2) hc.out)).mono ?_
                      rintro e w' ⟨⟨d, rfl, hd⟩, rfl⟩
                      have hdn : d ≤ n - (p + 2) := hd.out.1
                      by_cases hd0 : d = 0
                      · have bd : ((d : Int) == 0) = true := by rw [beq_iff_eq]; omega
                        have HR : Hid (Res z n 0) := s4_none hs4.out (by rw [hd0] at hd; exact hd.out)
                        clear hd0
                        go_wp2
                        go_ret
                        exact ⟨⟨_, rfl, HR⟩, rfl⟩
                      · have bd : ((d : Int) == 0) = false := by rw [beq_eq_false_iff_ne]; omega
                        have HR : Hid (Res z n ((p + 2 + d : Nat) : Int)) := s4_digits hs4.out hd.out (by omega)
                        clear hd0
                        go_wp2
                        go_ret
                        exact ⟨⟨_, ret_int (by omega), HR⟩, rfl⟩
                    · go_wp2_with fail
                      refine (f24 _ _ _ (fun _ => 0) _ (by omega) (by exact .inl (by omega))).mono ?_
                      rintro e w' ⟨⟨d, rfl, hd⟩, rfl⟩
                      have hd0 : d = 0 := by have := hd.out.1; omega
                      subst hd0
                      have HR : Hid (Res z n 0) := s4_none hs4.out (dg_zero (by omega))
                      go_wp2
                      go_ret
                      exact ⟨⟨_, rfl, HR⟩, rfl⟩
                · have hs4 : Hid (S4 z n (p + 1)) := s3_plain hs3.out hp He.out (fun _ => hsg)
                  have b43 : (z (p + 1) == 43) = false := by rw [beq_eq_false_iff_ne]; exact fun h => hsg (.inl h)
                  have b45 : (z (p + 1) == 45) = false := by rw [beq_eq_false_iff_ne]; exact fun h => hsg (.inr h)
                  clear hsg
                  go_wp2_with fail
                  refine (f24 _ _ _ (fun i => z (p + 1 + i)) _ (by omega) (by exact cells_from (p := p + 1) hc.out)).mono ?_
                  rintro e w' ⟨⟨d, rfl, hd⟩, rfl⟩
                  have hdn : d ≤ n - (p + 1) := hd.out.1
                  by_cases hd0 : d = 0
                  · have bd : ((d : Int) == 0) = true := by rw [beq_iff_eq]; omega
                    have HR : Hid (Res z n 0) := s4_none hs4.out (by rw [hd0] at hd; exact hd.out)
                    clear hd0
                    go_wp2
                    go_ret
                    exact ⟨⟨_, rfl, HR⟩, rfl⟩
                  · have bd : ((d : Int) == 0) = false := by rw [beq_eq_false_iff_ne]; omega
                    have HR : Hid (Res z n ((p + 1 + d : Nat) : Int)) := s4_digits hs4.out hd.out (by omega)
                    clear hd0
                    go_wp2
                    go_ret
                    exact ⟨⟨_, ret_int (by omega), HR⟩, rfl⟩
              · have hs4 : Hid (S4 z n (p + 1)) := s3_plain hs3.out hp He.out (fun h => absurd h hq)
                go_wp2_with fail
                refine (f24 _ _ _ (fun _ => 0) _ (by omega) (by exact .inl (by omega))).mono ?_
                rintro e w' ⟨⟨d, rfl, hd⟩, rfl⟩
                have hd0 : d = 0 := by have := hd.out.1; omega
                subst hd0
                have HR : Hid (Res z n 0) := s4_none hs4.out (dg_zero (by omega))
                go_wp2
                go_ret
                exact ⟨⟨_, rfl, HR⟩, rfl⟩
          · have HR : Hid (Res z n p) := s3_end hs3.out (fun _ => he)
            have b101 : (z p == 101) = false := by rw [beq_eq_false_iff_ne]; exact fun h => he (.inl h)
            have b69 : (z p == 69) = false := by rw [beq_eq_false_iff_ne]; exact fun h => he (.inr h)
            clear he
            go_wp2
            go_ret
            exact ⟨⟨_, rfl, HR⟩, rfl⟩
        · have HR : Hid (Res z n p) := s3_end hs3.out (fun h => absurd h hp)
          go_wp2
          go_ret
          exact ⟨⟨_, rfl, HR⟩, rfl⟩

theorem f11_nil (a : Option Addr) (cap : Nat) (z : Nat → Int) (w : World) : Calls Try.prog 11 #[.slice a 0 cap] w fun e w' => (∃ N, e = .returned (.int .i64 N) ∧ Hid (Res z 0 N)) ∧ w' = w := by
  have HR : Hid (Res z 0 0) := (Run.zero z 0).stops (fun h => by omega)
  go_enter Try.func11, Try.ntmps11
  go_wp2
  go_ret
  exact ⟨⟨_, rfl, HR⟩, rfl⟩

theorem f11_any (a : Option Addr) (n : Nat) (z : Nat → Int) (w : World) (hn : n ≤ 1048576) (h : Data w a n z) : Calls Try.prog 11 #[.slice a n n] w fun e w' => (∃ N, e = .returned (.int .i64 N) ∧ Hid (Res z n N)) ∧ w' = w := by
  by_cases h0 : n = 0
  · subst h0; exact f11_nil a 0 z w
  obtain ⟨g, off, rfl, hc⟩ := h.1.resolve_left h0
  by_cases h45 : z 0 = 45
  · have e1 : st z 1 = 1 := by rw [st_succ, h45]; show stepZ 0 45 = 1; decide
    exact f11 g off n z w hn (by omega) hc 1 (.inr ⟨rfl, by rw [beq_iff_eq]; exact h45⟩) ⟨(Run.zero z n).succ (by omega) (by rw [e1]; decide), .inr e1⟩
  · exact f11 g off n z w hn (by omega) hc 0 (.inl ⟨rfl, by rw [beq_eq_false_iff_ne]; exact h45⟩) ⟨Run.zero z n, .inl ⟨rfl, fun _ => h45⟩⟩
end Go.Proofs.Qxb6601779a.fnNumberLenMatchesAutomaton
