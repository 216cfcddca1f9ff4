import Derived.Test.Qxb6601732aTakeReads
namespace Go.Proofs.Qxb6601732a.fnParserTakeScript
open Go.ChangeShapes Go.WideShapes Go.ChangeAt Go.RowKit Go.Deep
set_option linter.unusedVariables false

theorem below_of_drew {B : Nat} {w w1 : World} (h : Below w.drew.heap.size w.drew w1) (hB : B ≤ w.heap.size) : Below B w w1 := ⟨h.os, h.tape, h.output, h.size, fun k hk => h.block k (Nat.lt_of_lt_of_le hk hB)⟩

set_option maxHeartbeats 2000000 in
theorem f14 (b off len cap : Nat) (tk : Nat → Tk) (w : World) (B g gcap : Nat) (nx ne : Int) (hp : PB w B g len gcap nx ne) (hl : len ≤ 65536) (hbw : b < w.heap.size) (hgw : g < w.heap.size)
    (h : Hid (∀ i, i < len → TokAt w b off (tk i) i)) (ht : Hid (∀ i, i < len → TokAt w g 0 (tk i) i)) :
    Calls Try.prog 14 #[.pointer (some ⟨B, 0, none⟩), .slice (some ⟨b, off, none⟩) len cap] w fun e w' => e = .returned (.bool true) ∧ Below w.heap.size w w' := by
  have Hp : Hid (PB w B g len gcap nx ne) := hp
  clear hp
  go_enter Try.func14, Try.ntmps14
  go_wp2_with fail
  refine (f20 w B g len gcap nx ne Hp.out).mono ?_
  rintro e w' ⟨rfl, rfl⟩
  go_wp2
  go_loopw [6] (fun i wr => ∃ k : Nat, k ≤ len ∧ i = .int .i64 k ∧ Hid (Below w'.heap.size w' wr)) (fun i _ => len - (intOf i).toNat)
  case atStart => exact ⟨0, Nat.zero_le _, rfl, Below.refl _ _⟩
  case round =>
    obtain ⟨k, hk, rfl, hbel⟩ := hrel
    by_cases hlt : k < len
    · obtain ⟨x0, x1, x2, x3⟩ := (h.out k hlt).grown (grown_of_below hbel.out none) (by simp)
      obtain ⟨y0, y1, y2, y3⟩ := (ht.out k hlt).grown (grown_of_below hbel.out none) (by simp)
      rw [Nat.zero_add] at y0 y1 y2 y3
      go_wp2
      go_region_held3 (fun w' => w'.cell? ⟨b, off + k * 4, none⟩ = some (.int .i64 (tk k).k) ∧ w'.cell? ⟨b, off + k * 4 + 1, none⟩ = some (.string (tk k).t) ∧ w'.cell? ⟨b, off + k * 4 + 2, none⟩ = some (.int .i64 (tk k).l) ∧ w'.cell? ⟨b, off + k * 4 + 3, none⟩ = some (.int .i64 (tk k).c) ∧
        w'.cell? ⟨g, k * 4, none⟩ = some (.int .i64 (tk k).k) ∧ w'.cell? ⟨g, k * 4 + 1, none⟩ = some (.string (tk k).t) ∧ w'.cell? ⟨g, k * 4 + 2, none⟩ = some (.int .i64 (tk k).l) ∧ w'.cell? ⟨g, k * 4 + 3, none⟩ = some (.int .i64 (tk k).c)) (go_keep)
        (first | (go_at_call 12; refine (f12 (tk k).k (tk k).t (tk k).l (tk k).c _).mono ?_; rintro e w1 ⟨rfl, hb1⟩; obtain ⟨p0, p1, p2, p3⟩ := (h.out k hlt).grown (grown_of_below (hbel.out.trans (below_of_drew hb1 hbel.out.size)) none) (by simp); obtain ⟨q0, q1, q2, q3⟩ := (ht.out k hlt).grown (grown_of_below (hbel.out.trans (below_of_drew hb1 hbel.out.size)) none) (by simp); rw [Nat.zero_add] at q0 q1 q2 q3; have Hb1 : Hid (Below w'.heap.size w' w1) := hbel.out.trans (below_of_drew hb1 hbel.out.size)))
      clear p0 p1 p2 p3 q0 q1 q2 q3 x0 x1 x2 x3 y0 y1 y2 y3
      go_wp2
      go_roundw
      case rel => exact ⟨k + 1, by omega, by go_num, Hb1⟩
      case measure => simp [intOf]; omega
    · go_wp2
      go_ret
      exact ⟨rfl, hbel.out⟩
end Go.Proofs.Qxb6601732a.fnParserTakeScript
