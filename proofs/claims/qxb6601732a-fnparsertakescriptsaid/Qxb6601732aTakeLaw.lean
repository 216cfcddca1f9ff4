import Derived.Test.Qxb6601732aTakeBuild
namespace Go.Proofs.Qxb6601732a.fnParserTakeScript
open Go.ChangeShapes Go.WideShapes Go.ChangeAt Go.RowKit Go.Deep
set_option linter.unusedVariables false

/-- What a round leaves: a take that wrote the parser's block alone, then new memory. -/
theorem keeps {w wr w2 w3 : World} {B g len gcap : Nat} {nx ne : Int} {tk : Nat → Tk} {c : Array Value} {t : TypeId} (hg2 : wr.grownBy w2 (some B)) (hp2 : PB w2 B g len gcap nx ne) (hb3 : Below (w2.heap.size + 1) (w2.alloc (.cells c t)) w3)
    (hgB : g < B) (hg0 : w.heap.size ≤ g) (htk : ∀ i, i < len → TokAt wr g 0 (tk i) i) (hbel : Below w.heap.size w wr) :
    Hid (PB w3 B g len gcap nx ne) ∧ Hid (∀ i, i < len → TokAt w3 g 0 (tk i) i) ∧ Hid (Below w.heap.size w w3) := by
  have h3 : w2.grownBy w3 none := grown_trans (grown_alloc w2 (.cells c t)) (grown_of_below (hb3.mono (by simp)) none)
  have hb2 : Below w.heap.size w w2 := hbel.grown hg2 hbel.size (fun k hk => by injection hk with hk; omega)
  refine ⟨hp2.grown h3 (by simp), fun i hi => ((htk i hi).grown hg2 (by simp; omega)).grown h3 (by simp), ?_⟩
  exact hb2.grown h3 hb2.size (fun k hk => by cases hk)

set_option maxHeartbeats 4000000 in
theorem mainWay (b off len cap : Nat) (tk : Nat → Tk) (nx calls : Nat) (ne : Int) (w : World) (hl : len ≤ 65536) (hnx : nx < len) (hcs : calls ≤ 65536) (hbw : b < w.heap.size)
    (h : Hid (∀ i, i < len → TokAt w b off (tk i) i)) :
    Calls Try.prog 4 #[.slice (some ⟨b, off, none⟩) len cap, .int .i64 nx, .int .i64 ne, .int .i64 calls] w fun e w' => e = .returned (.bool true) ∧ Below w.heap.size w w' := by
  have hd1 : decide (65536 < (len : Int)) = false := by simp; omega
  have hd2 : decide ((nx : Int) < 0) = false := by simp
  have hd3 : decide ((calls : Int) < 0) = false := by simp
  have hd4 : decide (65536 < (calls : Int)) = false := by simp; omega
  go_enter Try.func4, Try.ntmps4
  go_wp2_with fail
  refine (f7 _ len cap tk nx ne calls w (by omega) (by exact .inr ⟨b, off, rfl, hbw, h.out⟩)).mono ?_
  rintro e w' ⟨⟨b7, rfl⟩, rfl⟩
  cases b7
  · go_wp2
    go_ret
    exact ⟨rfl, Below.refl _ _⟩
  go_wp2_with fail
  refine (f8 _ len cap tk w' (by exact .inr ⟨b, off, rfl, hbw, h.out⟩) hl).mono ?_
  rintro e w ⟨⟨b8, rfl⟩, rfl⟩
  cases b8
  · go_wp2_with fail
    refine (f9 b off len cap tk w nx hnx hl h).mono ?_
    rintro e w' ⟨⟨E, rfl, hE⟩, rfl⟩
    rcases hE.out with ⟨rfl, hno⟩ | ⟨m, rfl, hm1, hm2, hmk, hno⟩
    · have Hno : Hid (∀ j, nx ≤ j → j < len → (tk j).k ≠ 0) := hno
      clear hE hno
      by_cases hcl : len - nx < calls
      · go_wp2
        go_ret
        exact ⟨rfl, Below.refl _ _⟩
      have hd5 : decide ((len : Int) - (nx : Int) < (calls : Int)) = false := by simp; omega
      go_wp2_with fail
      refine (f10 b off len cap tk w' nx ne hl (by omega) hbw h).mono ?_
      rintro e w1 ⟨B, g, gcap, rfl, hp, hg0, hgB, htk, hbel⟩
      have Hp : Hid (PB w1 B g len gcap nx ne) := hp
      have Htk : Hid (∀ i, i < len → TokAt w1 g 0 (tk i) i) := htk
      have Hbel : Hid (Below w'.heap.size w' w1) := hbel
      clear hp htk hbel
      go_wp2
      go_loopw [11] (fun i wr => ∃ k : Nat, k ≤ calls ∧ i = .int .i64 k ∧ Hid (PB wr B g len gcap (nx + k : Nat) ne) ∧ Hid (∀ i, i < len → TokAt wr g 0 (tk i) i) ∧ Hid (Below w'.heap.size w' wr)) (fun i _ => calls - (intOf i).toNat)
      case atStart => exact ⟨0, Nat.zero_le _, rfl, Hp, Htk, Hbel⟩
      case round =>
        clear Hp Htk Hbel
        obtain ⟨k, hk, rfl, Hp, Htk, Hbel⟩ := hrel
        by_cases hlt : k < calls
        · obtain ⟨p, Hpe⟩ : ∃ p : Nat, Hid (p = nx + k) := ⟨_, rfl⟩
          have hpl : p < len := by rw [Hpe.out]; omega
          have Hpi : Hid ((nx : Int) + (k : Int) = (p : Int)) := by
            show (nx : Int) + (k : Int) = (p : Int)
            rw [Hpe.out]; omega
          rw [← Hpe.out] at Hp
          have hkk : ((tk p).k != 0) = true := by rw [bne_iff_ne]; exact Hno.out _ (by rw [Hpe.out]; omega) hpl
          have hgw := Hp.out.lt
          go_wp2_with fail
          refine (f11_move wr B g len gcap p ne (tk p) Hp.out hpl hl (by omega) (by exact Htk.out _ hpl) hkk).mono ?_
          rintro e w2 ⟨rfl, hg2, hp2⟩
          obtain ⟨x0, x1, x2, x3⟩ := ((h.out p hpl).grown (grown_of_below Hbel.out none) (by simp)).grown hg2 (by simp; omega)
          clear hkk
          have Hg2 : Hid (wr.grownBy w2 (some B)) := hg2
          have Hp2 : Hid (PB w2 B g len gcap (p + 1 : Nat) ne) := hp2
          clear hp2 hg2
          go_wp2
          rw [Hpi.out]
          go_region_held3 (fun w' => w'.cell? ⟨b, off + p * 4, none⟩ = some (.int .i64 (tk p).k) ∧ w'.cell? ⟨b, off + p * 4 + 1, none⟩ = some (.string (tk p).t) ∧ w'.cell? ⟨b, off + p * 4 + 2, none⟩ = some (.int .i64 (tk p).l) ∧ w'.cell? ⟨b, off + p * 4 + 3, none⟩ = some (.int .i64 (tk p).c) ∧
            w'.cell? ⟨w2.heap.size, 0, none⟩ = some (.int .i64 (tk p).k) ∧ w'.cell? ⟨w2.heap.size, 1, none⟩ = some (.string (tk p).t) ∧ w'.cell? ⟨w2.heap.size, 2, none⟩ = some (.int .i64 (tk p).l) ∧ w'.cell? ⟨w2.heap.size, 3, none⟩ = some (.int .i64 (tk p).c)) (go_keep)
            (first | (go_at_call 12; refine (f12 (tk p).k (tk p).t (tk p).l (tk p).c _).mono ?_; rintro e w3 ⟨rfl, hb1⟩; have Hb3 : Hid (Below (w2.heap.size + 1) (w2.alloc (.cells #[.int .i64 (tk p).k, .string (tk p).t, .int .i64 (tk p).l, .int .i64 (tk p).c] 36)) w3) := below_of_drew hb1 (by simp); obtain ⟨⟨c0, c1, c2, c3⟩, _⟩ := four (B := B) (grown_of_below (Hb3.out.mono (by simp)) none) (by simp); obtain ⟨p0, p1, p2, p3⟩ := ((((h.out p hpl).grown (grown_of_below Hbel.out none) (by simp)).grown Hg2.out (by simp; omega)).grown (grown_alloc _ _) (by simp)).grown (grown_of_below (Hb3.out.mono (by simp)) none) (by simp); clear hb1))
          obtain ⟨Hp3, Htk3, Hbel3⟩ := keeps Hg2.out Hp2.out Hb3.out hgB hg0 Htk.out Hbel.out
          rw [Hpe.out] at Hp3
          clear p0 p1 p2 p3 c0 c1 c2 c3 x0 x1 x2 x3 Hg2 Hp2 Hb3 Hp Htk Hbel Hpi
          go_wp2
          go_roundw
          case rel => exact ⟨k + 1, by omega, by go_num, Hp3, Htk3, Hbel3⟩
          case measure => simp [intOf]; omega
        · have hkc : k = calls := by omega
          subst hkc
          go_wp2_with fail
          refine (f13 wr B g len gcap _ ne Hp.out).mono ?_
          rintro e w2 ⟨rfl, nq, rfl⟩
          have hgw := Hp.out.lt
          have hbz := Hbel.out.size
          go_wp2_with fail
          refine (f14 b off len cap tk _ B g gcap _ ne (by exact Hp.out) hl (by simp; omega) (by simp; omega) (by exact fun i hi => (h.out i hi).grown (grown_of_below (bel_drewN Hbel.out _) none) (by simp)) (by exact Htk.out)).mono ?_
          rintro e w3 ⟨rfl, hb3⟩
          have Hb3 : Hid (Below w'.heap.size w' w3) := (bel_drewN Hbel.out nq).trans (hb3.mono Hbel.out.size)
          clear hb3
          go_wp2
          go_ret
          exact ⟨rfl, Hb3.out⟩
    · have Hno : Hid (∀ j, nx ≤ j → j < m → (tk j).k ≠ 0) := hno
      have Hmk : Hid ((tk m).k = 0) := hmk
      clear hE hno hmk
      have hd5 : decide ((m : Int) < 0) = false := by simp
      have hd6 : decide (0 ≤ (m : Int)) = true := by simp
      go_wp2_with fail
      refine (f10 b off len cap tk w' nx ne hl (by omega) hbw h).mono ?_
      rintro e w1 ⟨B, g, gcap, rfl, hp, hg0, hgB, htk, hbel⟩
      have Hp : Hid (PB w1 B g len gcap (min (nx + 0) m : Nat) ne) := by
        rw [show min (nx + 0) m = nx from by omega]; exact hp
      have Htk : Hid (∀ i, i < len → TokAt w1 g 0 (tk i) i) := htk
      have Hbel : Hid (Below w'.heap.size w' w1) := hbel
      clear hp htk hbel
      go_wp2
      go_loopw [11] (fun i wr => ∃ k : Nat, k ≤ calls ∧ i = .int .i64 k ∧ Hid (PB wr B g len gcap (min (nx + k) m : Nat) ne) ∧ Hid (∀ i, i < len → TokAt wr g 0 (tk i) i) ∧ Hid (Below w'.heap.size w' wr)) (fun i _ => calls - (intOf i).toNat)
      case atStart => exact ⟨0, Nat.zero_le _, rfl, Hp, Htk, Hbel⟩
      case round =>
        clear Hp Htk Hbel
        obtain ⟨k, hk, rfl, Hp, Htk, Hbel⟩ := hrel
        have hgw := Hp.out.lt
        by_cases hlt : k < calls
        · by_cases hkm : nx + k < m
          · obtain ⟨p, Hpe⟩ : ∃ p : Nat, Hid (p = nx + k) := ⟨_, rfl⟩
            have hpl : p < len := by rw [Hpe.out]; omega
            have Hpi : Hid ((nx : Int) + (k : Int) = (p : Int)) := by
              show (nx : Int) + (k : Int) = (p : Int)
              rw [Hpe.out]; omega
            rw [show min (nx + k) m = p from by rw [Hpe.out]; omega] at Hp
            have hkk : ((tk p).k != 0) = true := by rw [bne_iff_ne]; exact Hno.out _ (by rw [Hpe.out]; omega) (by rw [Hpe.out]; omega)
            have hdk : decide ((m : Int) < (nx : Int) + (k : Int)) = false := by simp; omega
            go_wp2_with fail
            refine (f11_move wr B g len gcap p ne (tk p) Hp.out hpl hl (by omega) (by exact Htk.out _ hpl) hkk).mono ?_
            rintro e w2 ⟨rfl, hg2, hp2⟩
            obtain ⟨x0, x1, x2, x3⟩ := ((h.out p hpl).grown (grown_of_below Hbel.out none) (by simp)).grown hg2 (by simp; omega)
            clear hkk
            have Hg2 : Hid (wr.grownBy w2 (some B)) := hg2
            have Hp2 : Hid (PB w2 B g len gcap (p + 1 : Nat) ne) := hp2
            clear hp2 hg2
            go_wp2
            rw [Hpi.out]
            go_region_held3 (fun w' => w'.cell? ⟨b, off + p * 4, none⟩ = some (.int .i64 (tk p).k) ∧ w'.cell? ⟨b, off + p * 4 + 1, none⟩ = some (.string (tk p).t) ∧ w'.cell? ⟨b, off + p * 4 + 2, none⟩ = some (.int .i64 (tk p).l) ∧ w'.cell? ⟨b, off + p * 4 + 3, none⟩ = some (.int .i64 (tk p).c) ∧
              w'.cell? ⟨w2.heap.size, 0, none⟩ = some (.int .i64 (tk p).k) ∧ w'.cell? ⟨w2.heap.size, 1, none⟩ = some (.string (tk p).t) ∧ w'.cell? ⟨w2.heap.size, 2, none⟩ = some (.int .i64 (tk p).l) ∧ w'.cell? ⟨w2.heap.size, 3, none⟩ = some (.int .i64 (tk p).c)) (go_keep)
              (first | (go_at_call 12; refine (f12 (tk p).k (tk p).t (tk p).l (tk p).c _).mono ?_; rintro e w3 ⟨rfl, hb1⟩; have Hb3 : Hid (Below (w2.heap.size + 1) (w2.alloc (.cells #[.int .i64 (tk p).k, .string (tk p).t, .int .i64 (tk p).l, .int .i64 (tk p).c] 36)) w3) := below_of_drew hb1 (by simp); obtain ⟨⟨c0, c1, c2, c3⟩, _⟩ := four (B := B) (grown_of_below (Hb3.out.mono (by simp)) none) (by simp); obtain ⟨p0, p1, p2, p3⟩ := ((((h.out p hpl).grown (grown_of_below Hbel.out none) (by simp)).grown Hg2.out (by simp; omega)).grown (grown_alloc _ _) (by simp)).grown (grown_of_below (Hb3.out.mono (by simp)) none) (by simp); clear hb1))
            obtain ⟨Hp3, Htk3, Hbel3⟩ := keeps Hg2.out Hp2.out Hb3.out hgB hg0 Htk.out Hbel.out
            rw [show p + 1 = min (nx + (k + 1)) m from by rw [Hpe.out]; omega] at Hp3
            clear p0 p1 p2 p3 c0 c1 c2 c3 x0 x1 x2 x3 Hg2 Hp2 Hb3 Hp Htk Hbel Hpi
            go_wp2
            go_roundw
            case rel => exact ⟨k + 1, by omega, by go_num, Hp3, Htk3, Hbel3⟩
            case measure => simp [intOf]; omega
          · have hpl : m < len := hm2
            rw [show min (nx + k) m = m from by omega] at Hp
            have hkk : ((tk m).k != 0) = false := by rw [Hmk.out]; rfl
            by_cases hke : nx + k = m
            · have Hpi : Hid ((nx : Int) + (k : Int) = (m : Int)) := by
                show (nx : Int) + (k : Int) = (m : Int)
                omega
              have hdk : decide ((m : Int) < (nx : Int) + (k : Int)) = false := by simp; omega
              clear hke
              go_wp2_with fail
              refine (f11_stay wr B g len gcap m ne (tk m) Hp.out hpl hl (by omega) (by exact Htk.out _ hpl) hkk).mono ?_
              rintro e w2 ⟨rfl, hb2⟩
              have Hg2 : Hid (wr.grownBy w2 (some B)) := grown_of_below hb2 _
              have Hp2 : Hid (PB w2 B g len gcap (m : Nat) ne) := Hp.out.grown (grown_of_below hb2 none) (by simp)
              obtain ⟨x0, x1, x2, x3⟩ := ((h.out m hpl).grown (grown_of_below Hbel.out none) (by simp)).grown Hg2.out (by simp; omega)
              clear hkk hb2
              go_wp2
              rw [Hpi.out]
              go_region_held3 (fun w' => w'.cell? ⟨b, off + m * 4, none⟩ = some (.int .i64 (tk m).k) ∧ w'.cell? ⟨b, off + m * 4 + 1, none⟩ = some (.string (tk m).t) ∧ w'.cell? ⟨b, off + m * 4 + 2, none⟩ = some (.int .i64 (tk m).l) ∧ w'.cell? ⟨b, off + m * 4 + 3, none⟩ = some (.int .i64 (tk m).c) ∧
                w'.cell? ⟨w2.heap.size, 0, none⟩ = some (.int .i64 (tk m).k) ∧ w'.cell? ⟨w2.heap.size, 1, none⟩ = some (.string (tk m).t) ∧ w'.cell? ⟨w2.heap.size, 2, none⟩ = some (.int .i64 (tk m).l) ∧ w'.cell? ⟨w2.heap.size, 3, none⟩ = some (.int .i64 (tk m).c)) (go_keep)
                (first | (go_at_call 12; refine (f12 (tk m).k (tk m).t (tk m).l (tk m).c _).mono ?_; rintro e w3 ⟨rfl, hb1⟩; have Hb3 : Hid (Below (w2.heap.size + 1) (w2.alloc (.cells #[.int .i64 (tk m).k, .string (tk m).t, .int .i64 (tk m).l, .int .i64 (tk m).c] 36)) w3) := below_of_drew hb1 (by simp); obtain ⟨⟨c0, c1, c2, c3⟩, _⟩ := four (B := B) (grown_of_below (Hb3.out.mono (by simp)) none) (by simp); obtain ⟨p0, p1, p2, p3⟩ := ((((h.out m hpl).grown (grown_of_below Hbel.out none) (by simp)).grown Hg2.out (by simp; omega)).grown (grown_alloc _ _) (by simp)).grown (grown_of_below (Hb3.out.mono (by simp)) none) (by simp); clear hb1))
              obtain ⟨Hp3, Htk3, Hbel3⟩ := keeps Hg2.out Hp2.out Hb3.out hgB hg0 Htk.out Hbel.out
              rw [show m = min (nx + (k + 1)) m from by omega] at Hp3
              clear p0 p1 p2 p3 c0 c1 c2 c3 x0 x1 x2 x3 Hg2 Hp2 Hb3 Hp Htk Hbel Hpi
              go_wp2
              go_roundw
              case rel => exact ⟨k + 1, by omega, by go_num, Hp3, Htk3, Hbel3⟩
              case measure => simp [intOf]; omega
            · have hdk : decide ((m : Int) < (nx : Int) + (k : Int)) = true := by simp; omega
              go_wp2_with fail
              refine (f11_stay wr B g len gcap m ne (tk m) Hp.out hpl hl (by omega) (by exact Htk.out _ hpl) hkk).mono ?_
              rintro e w2 ⟨rfl, hb2⟩
              have Hg2 : Hid (wr.grownBy w2 (some B)) := grown_of_below hb2 _
              have Hp2 : Hid (PB w2 B g len gcap (m : Nat) ne) := Hp.out.grown (grown_of_below hb2 none) (by simp)
              obtain ⟨x0, x1, x2, x3⟩ := ((h.out m hpl).grown (grown_of_below Hbel.out none) (by simp)).grown Hg2.out (by simp; omega)
              clear hkk hb2
              go_wp2
              go_region_held3 (fun w' => w'.cell? ⟨b, off + m * 4, none⟩ = some (.int .i64 (tk m).k) ∧ w'.cell? ⟨b, off + m * 4 + 1, none⟩ = some (.string (tk m).t) ∧ w'.cell? ⟨b, off + m * 4 + 2, none⟩ = some (.int .i64 (tk m).l) ∧ w'.cell? ⟨b, off + m * 4 + 3, none⟩ = some (.int .i64 (tk m).c) ∧
                w'.cell? ⟨w2.heap.size, 0, none⟩ = some (.int .i64 (tk m).k) ∧ w'.cell? ⟨w2.heap.size, 1, none⟩ = some (.string (tk m).t) ∧ w'.cell? ⟨w2.heap.size, 2, none⟩ = some (.int .i64 (tk m).l) ∧ w'.cell? ⟨w2.heap.size, 3, none⟩ = some (.int .i64 (tk m).c)) (go_keep)
                (first | (go_at_call 12; refine (f12 (tk m).k (tk m).t (tk m).l (tk m).c _).mono ?_; rintro e w3 ⟨rfl, hb1⟩; have Hb3 : Hid (Below (w2.heap.size + 1) (w2.alloc (.cells #[.int .i64 (tk m).k, .string (tk m).t, .int .i64 (tk m).l, .int .i64 (tk m).c] 36)) w3) := below_of_drew hb1 (by simp); obtain ⟨⟨c0, c1, c2, c3⟩, _⟩ := four (B := B) (grown_of_below (Hb3.out.mono (by simp)) none) (by simp); obtain ⟨p0, p1, p2, p3⟩ := ((((h.out m hpl).grown (grown_of_below Hbel.out none) (by simp)).grown Hg2.out (by simp; omega)).grown (grown_alloc _ _) (by simp)).grown (grown_of_below (Hb3.out.mono (by simp)) none) (by simp); clear hb1))
              obtain ⟨Hp3, Htk3, Hbel3⟩ := keeps Hg2.out Hp2.out Hb3.out hgB hg0 Htk.out Hbel.out
              rw [show m = min (nx + (k + 1)) m from by omega] at Hp3
              clear p0 p1 p2 p3 c0 c1 c2 c3 x0 x1 x2 x3 Hg2 Hp2 Hb3 Hp Htk Hbel
              go_wp2
              go_roundw
              case rel => exact ⟨k + 1, by omega, by go_num, Hp3, Htk3, Hbel3⟩
              case measure => simp [intOf]; omega
        · have hkc : k = calls := by omega
          subst hkc
          have hbz := Hbel.out.size
          by_cases hkm : nx + k ≤ m
          · rw [show min (nx + k) m = nx + k from by omega] at Hp
            have hdk : decide ((m : Int) < (nx : Int) + (k : Int)) = false := by simp; omega
            go_wp2_with fail
            refine (f13 wr B g len gcap _ ne Hp.out).mono ?_
            rintro e w2 ⟨rfl, nq, rfl⟩
            go_wp2_with fail
            refine (f14 b off len cap tk _ B g gcap _ ne (by exact Hp.out) hl (by simp; omega) (by simp; omega) (by exact fun i hi => (h.out i hi).grown (grown_of_below (bel_drewN Hbel.out _) none) (by simp)) (by exact Htk.out)).mono ?_
            rintro e w3 ⟨rfl, hb3⟩
            have Hb3 : Hid (Below w'.heap.size w' w3) := (bel_drewN Hbel.out nq).trans (hb3.mono Hbel.out.size)
            clear hb3
            go_wp2
            go_ret
            exact ⟨rfl, Hb3.out⟩
          · rw [show min (nx + k) m = m from by omega] at Hp
            have hdk : decide ((m : Int) < (nx : Int) + (k : Int)) = true := by simp; omega
            go_wp2_with fail
            refine (f13 wr B g len gcap _ ne Hp.out).mono ?_
            rintro e w2 ⟨rfl, nq, rfl⟩
            go_wp2_with fail
            refine (f14 b off len cap tk _ B g gcap _ ne (by exact Hp.out) hl (by simp; omega) (by simp; omega) (by exact fun i hi => (h.out i hi).grown (grown_of_below (bel_drewN Hbel.out _) none) (by simp)) (by exact Htk.out)).mono ?_
            rintro e w3 ⟨rfl, hb3⟩
            have Hb3 : Hid (Below w'.heap.size w' w3) := (bel_drewN Hbel.out nq).trans (hb3.mono Hbel.out.size)
            clear hb3
            go_wp2
            go_ret
            exact ⟨rfl, Hb3.out⟩
  · go_wp2
    go_ret
    exact ⟨rfl, Below.refl _ _⟩

set_option maxHeartbeats 1000000 in
/-- The inputs at which the law answers true by one of its own first tests. -/
theorem early (a0 : Option Addr) (len cap : Nat) (tk : Nat → Tk) (a1 a2 a3 : Int) (w : World) (hm : len ≤ 9223372036854775807)
    (h : Hid (len = 0 ∨ ∃ b off, a0 = some ⟨b, off, none⟩ ∧ b < w.heap.size ∧ ∀ i, i < len → TokAt w b off (tk i) i))
    (hq : 65536 < len ∨ len ≤ 65536 ∧ (a1 < 0 ∨ 0 ≤ a1 ∧ (len : Int) ≤ a1 ∨ 0 ≤ a1 ∧ a1 < (len : Int) ∧ (a3 < 0 ∨ 0 ≤ a3 ∧ 65536 < a3))) :
    Calls Try.prog 4 #[.slice a0 len cap, .int .i64 a1, .int .i64 a2, .int .i64 a3] w fun e w' => e = .returned (.bool true) ∧ Below w.heap.size w w' := by
  rcases hq with hq | ⟨hl, hq⟩
  · go_enter Try.func4, Try.ntmps4
    go_wp2_with fail
    refine (f7 _ len cap tk a1 a2 a3 w hm h).mono ?_
    rintro e w' ⟨⟨b7, rfl⟩, rfl⟩
    cases b7
    all_goals
      go_wp2
      go_ret
      exact ⟨rfl, Below.refl _ _⟩
  rcases hq with h1 | ⟨h0, h1⟩ | ⟨h0, h1, h2 | ⟨h2, h3⟩⟩
  all_goals
    go_enter Try.func4, Try.ntmps4
    go_wp2_with fail
    refine (f7 _ len cap tk a1 a2 a3 w hm h).mono ?_
    rintro e w' ⟨⟨b7, rfl⟩, rfl⟩
    cases b7
    · go_wp2
      go_ret
      exact ⟨rfl, Below.refl _ _⟩
    go_wp2_with fail
    refine (f8 _ len cap tk w' h hl).mono ?_
    rintro e w ⟨⟨b8, rfl⟩, rfl⟩
    cases b8
    all_goals
      go_wp2
      go_ret
      exact ⟨rfl, Below.refl _ _⟩

theorem walk (a0 : Option Addr) (len0 cap0 : Nat) (tk : Nat → Tk) (a1 a2 a3 : Int) (w : World) (w0 : IsToks w a0 len0 tk) (w1 : (Lit.int .i64 a1).wf = true) (w2 : (Lit.int .i64 a2).wf = true) (w3 : (Lit.int .i64 a3).wf = true) :
    Calls Try.prog 4 #[.slice a0 len0 cap0, .int .i64 a1, .int .i64 a2, .int .i64 a3] w fun e w' => e = .returned (.bool true) ∧ Below w.heap.size w w' := by
  obtain ⟨hm, h⟩ := w0
  unfold maxLen at hm
  by_cases hq : 65536 < len0 ∨ len0 ≤ 65536 ∧ (a1 < 0 ∨ 0 ≤ a1 ∧ (len0 : Int) ≤ a1 ∨ 0 ≤ a1 ∧ a1 < (len0 : Int) ∧ (a3 < 0 ∨ 0 ≤ a3 ∧ 65536 < a3))
  · exact early a0 len0 cap0 tk a1 a2 a3 w (by omega) h hq
  · rcases h with h | ⟨b, off, rfl, hb, hc⟩
    · omega
    obtain ⟨nx, rfl⟩ := Int.eq_ofNat_of_zero_le (show 0 ≤ a1 by omega)
    obtain ⟨calls, rfl⟩ := Int.eq_ofNat_of_zero_le (show 0 ≤ a3 by omega)
    exact mainWay b off len0 cap0 tk nx calls a2 w (by omega) (by omega) (by omega) hb hc
end Go.Proofs.Qxb6601732a.fnParserTakeScript
