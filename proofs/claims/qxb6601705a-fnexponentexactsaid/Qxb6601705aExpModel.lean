import Derived.Test.Qxb6601705aExpWalks
namespace Go.Proofs.Qxb6601705a.fnExponentExact
open Go.ChangeShapes Go.WideShapes Go.ChangeAt Go.RowKit

def sign (sg : Nat) : List Int := if sg = 1 then [43] else if sg = 2 then [45] else []
def body (v : Nat) : List Int := if v < 10 then [48 + (v : Int)] else [48 + ((v : Int) - 10) / 10, 48 + ((v : Int) - 10) % 10]
def txt (sg v : Nat) : List Int := sign sg ++ body v

theorem exp_txt : ∀ sg, sg < 3 → ∀ v, v < 110 → expB (txt sg v) = true := by decide +kernel
theorem txt_exp (l : List Int) (h : expB l = true) : ∃ sg, sg < 3 ∧ ∃ v, v < 110 ∧ l = txt sg v := by
  have key : ∀ t : List Int, short t = true → ∃ v, v < 110 ∧ t = body v := by
    intro t ht
    match t, ht with
    | [], ht => simp [short] at ht
    | [a], ht =>
      simp [short, dig] at ht
      refine ⟨(a - 48).toNat, by omega, ?_⟩
      unfold body
      rw [if_pos (by omega)]
      congr 1
      omega
    | [a, b], ht =>
      simp [short, dig] at ht
      refine ⟨(10 * (a - 48) + (b - 48) + 10).toNat, by omega, ?_⟩
      unfold body
      rw [if_neg (by omega)]
      have e1 : 48 + (((10 * (a - 48) + (b - 48) + 10).toNat : Int) - 10) / 10 = a := by omega
      have e2 : 48 + (((10 * (a - 48) + (b - 48) + 10).toNat : Int) - 10) % 10 = b := by omega
      rw [e1, e2]
    | a :: b :: c :: r, ht => simp [short] at ht
  unfold expB at h
  split at h
  · obtain ⟨v, hv, e⟩ := key _ h
    match l with
    | [] => simp [sgn] at *
    | c :: r =>
      rename_i hs
      simp [sgn] at hs
      simp at e
      rcases hs with rfl | rfl
      · exact ⟨1, by omega, v, hv, by simp [txt, sign, e]⟩
      · exact ⟨2, by omega, v, hv, by simp [txt, sign, e]⟩
  · obtain ⟨v, hv, e⟩ := key _ h
    exact ⟨0, by omega, v, hv, by simp [txt, sign, e]⟩

theorem ints_cut (s : ByteArray) : ints (s.extract 1 s.size) = (ints s).tail := by
  unfold ints
  rw [ByteArray.data_extract, Array.toList_extract]
  simp [List.extract]
  exact List.take_of_length_le (by simp)

theorem sgn_pos (s : ByteArray) (h : 0 < s.size) : sgn (ints s) = ((s[0].toNat : Int) == 43 || (s[0].toNat : Int) == 45) := by
  have := ints_get s 0 h
  match hl : ints s, this with
  | [], this => simp at this
  | c :: r, this => simp at this; simp [sgn, this]

theorem exp_any (s : ByteArray) (w : World) :
    Calls Try.prog 22 #[.string s] w fun e w' => e = .returned (.bool (expB (ints s))) ∧ w' = w := by
  by_cases hp : 0 < s.size
  · by_cases hq : ((s[0].toNat : Int) = 43 ∨ (s[0].toNat : Int) = 45)
    · have hsg : sgn (ints s) = true := by rw [sgn_pos s hp]; simpa using hq
      unfold expB; rw [if_pos hsg, ← ints_cut]
      refine exp_sign s _ rfl w hp ?_
      rcases hq with hq | hq
      · exact .inl (by rw [hq]; rfl)
      · exact .inr ⟨by rw [hq]; rfl, by rw [hq]; rfl⟩
    · have hsg : ¬ sgn (ints s) = true := by rw [sgn_pos s hp]; simpa using hq
      unfold expB; rw [if_neg hsg]
      refine exp_plain s w fun _ => ?_
      rw [beq_eq_false_iff_ne, beq_eq_false_iff_ne]
      exact not_or.1 hq
  · have hz : ints s = [] := List.eq_nil_of_length_eq_zero (by rw [ints_length]; omega)
    have hsg : ¬ sgn (ints s) = true := by rw [hz]; decide
    unfold expB; rw [if_neg hsg]
    exact exp_plain s w fun h => absurd h hp

theorem sg_cases (sg : Nat) (h : sg < 3) : (((sg : Int) == 1) = false ∧ ((sg : Int) == 2) = false ∧ sign sg = []) ∨ (((sg : Int) == 1) = true ∧ sign sg = [43]) ∨ (((sg : Int) == 1) = false ∧ ((sg : Int) == 2) = true ∧ sign sg = [45]) := by
  match sg, h with
  | 0, _ => left; decide
  | 1, _ => right; left; decide
  | 2, _ => right; right; decide

theorem grown_drewN {W w' : World} (h : Grown W w') (n : Nat) : Grown W (w'.drewN n) := h

set_option maxHeartbeats 4000000 in
theorem model_any (s : ByteArray) (w : World) (hs : s.size ≤ 1048576) :
    Calls Try.prog 14 #[.string s] w fun e w' => e = .returned (.bool (expB (ints s))) ∧ Grown w w' := by
  go_enter Try.func14, Try.ntmps14
  go_wp2
  go_loopw [3] (fun i w' => ∃ sg : Nat, sg ≤ 3 ∧ i = .int .i64 sg ∧ Hid (∀ g, g < sg → ∀ v, v < 110 → ints s ≠ txt g v) ∧ Hid (Grown w w')) (fun i _ => 3 - (intOf i).toNat)
  case atStart => exact ⟨0, Nat.zero_le _, rfl, fun j hj => by omega, Grown.refl _⟩
  case round =>
    obtain ⟨sg, hsg, rfl, hno, hgr⟩ := hrel
    by_cases hlt : sg < 3
    · have hdl : decide ((sg : Int) < 3) = true := by simp; omega
      go_wp2
      go_loopw [4] (fun i w' => ∃ v : Nat, v ≤ 110 ∧ i = .int .i64 v ∧ Hid (∀ u, u < v → ints s ≠ txt sg u) ∧ Hid (Grown w w')) (fun i _ => 110 - (intOf i).toNat)
      case atStart => exact ⟨0, Nat.zero_le _, rfl, fun j hj => by omega, hgr⟩
      case round =>
        obtain ⟨v, hv, rfl, hnov, hgrv⟩ := hrel
        by_cases hltv : v < 110
        · have hdv : decide ((v : Int) < 110) = true := by simp; omega
          by_cases h10 : v < 10 <;> rcases sg_cases sg hlt with ⟨hd1, hd2, hsn⟩ | ⟨hd1, hsn⟩ | ⟨hd1, hd2, hsn⟩
          all_goals
            have Htx : Hid (txt sg v = sign sg ++ body v) := rfl
            unfold body at Htx
            rw [hsn] at Htx
            first | rw [if_pos h10] at Htx | rw [if_neg h10] at Htx
            clear hsn
            go_wp2_with fail
            refine (same_any s _ _ _ _ (txt sg v) (by rw [Htx.out]; rfl) (by decide) hs (by rw [Htx.out]; intro i hi; match i, hi with | 0, _ => (simp [go_sem]) | 1, _ => (simp [go_sem]) | 2, _ => simp [go_sem])).mono ?_
            rintro e w1 ⟨rfl, nq, rfl⟩
            by_cases hq : ints s = txt sg v
            · have Hq : Hid (expB (ints s) = true) := by
                show expB (ints s) = true
                rw [hq]; exact exp_txt sg hlt v hltv
              rw [decide_eq_true hq]
              clear hq
              go_wp2
              go_ret
              exact ⟨ret_bool Hq.out.symm, grown_drewN (hgrv.out.alloc _ _) _⟩
            · have Hq : Hid (∀ u, u < v + 1 → ints s ≠ txt sg u) := fun u hu => by
                by_cases huv : u < v
                · exact hnov.out u huv
                · have : u = v := by omega
                  rw [this]; exact hq
              rw [decide_eq_false hq]
              clear hq hnov
              go_wp2
              go_roundw
              case rel => exact ⟨v + 1, by omega, by go_num, Hq, grown_drewN (hgrv.out.alloc _ _) _⟩
              case measure => simp [intOf]; omega
        · have Hq : Hid (∀ g, g < sg + 1 → ∀ v, v < 110 → ints s ≠ txt g v) := fun g hg => by
            by_cases hgs : g < sg
            · exact hno.out g hgs
            · have : g = sg := by omega
              rw [this]; exact fun u hu => hnov.out u (by omega)
          clear hno hnov
          go_wp2
          go_roundw
          case rel => exact ⟨sg + 1, by omega, by go_num, Hq, hgrv⟩
          case measure => simp [intOf]; omega
    · have Hq : Hid (expB (ints s) = false) := by
        show expB (ints s) = false
        rw [← Bool.not_eq_true]
        intro h
        obtain ⟨g, hg, v, hv, e⟩ := txt_exp _ h
        exact hno.out g (by omega) v hv e
      go_wp2
      go_ret
      exact ⟨ret_bool Hq.out.symm, hgr.out⟩
end Go.Proofs.Qxb6601705a.fnExponentExact
