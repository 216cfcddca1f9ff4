import Derived.Test.Qxb6601732aTakeKept
import Derived.Deep.AppendLies
namespace Go.Proofs.Qxb6601732a.fnParserTakeScript
open Go.ChangeShapes Go.WideShapes Go.ChangeAt Go.RowKit Go.Deep
set_option linter.unusedVariables false

theorem info36 : (Try.prog.info? 36).map (fun i => (i.zero, i.size, i.bytes)) = some (some (.agg #[.int .i64 0, .string ByteArray.empty, .int .i64 0, .int .i64 0]), 4, 40) := by kernel_rfl

/-- The cells of one token; of the first n. -/
def tcells (x : Tk) : List Value := [.int .i64 x.k, .string x.t, .int .i64 x.l, .int .i64 x.c]
def flat (tk : Nat → Tk) (n : Nat) : List Value := (List.range n).flatMap fun i => tcells (tk i)
theorem flat_succ (tk : Nat → Tk) (n : Nat) : flat tk (n + 1) = flat tk n ++ tcells (tk n) := by simp [flat, List.range_succ]

theorem owns_grown {w w' : World} {base : Nat} {e : TypeId} {size : Nat} {v : Value} {n : Nat} {xs : List Value} (h : w.ownsRow base e size v n xs) (hg : w.grownBy w' none) : w'.ownsRow base e size v n xs := by
  refine ⟨h.1, ?_⟩
  rcases h.2 with h2 | ⟨g, cap, cur, hv, hb, hc, r⟩
  · exact .inl h2
  · have hlt : g < w.heap.size := by
      rcases Nat.lt_or_ge g w.heap.size with hlt | hge
      · exact hlt
      · rw [Array.getElem?_eq_none hge] at hc; cases hc
    exact .inr ⟨g, cap, cur, hv, hb, by rw [hg.block g hlt (by simp)]; exact hc, r⟩

theorem flat_length (tk : Nat → Tk) (n : Nat) : (flat tk n).length = n * 4 := by
  induction n with
  | zero => rfl
  | succ n ih => rw [flat_succ, List.length_append, ih]; simp [tcells]; omega
theorem flat_get (tk : Nat → Tk) (n i j : Nat) (hi : i < n) (hj : j < 4) : (flat tk n)[i * 4 + j]? = (tcells (tk i))[j]? := by
  induction n with
  | zero => omega
  | succ n ih =>
    rw [flat_succ]
    by_cases h : i < n
    · rw [List.getElem?_append_left (by rw [flat_length]; omega)]; exact ih h
    · have : i = n := by omega
      subst this
      rw [List.getElem?_append_right (by rw [flat_length]; omega), flat_length]
      congr 1; omega
theorem toks_of_owns {w : World} {base g n cap : Nat} {tk : Nat → Tk} (h : w.ownsRow base 36 4 (.slice (some ⟨g, 0, none⟩) n cap) n (flat tk n)) : ∀ i, i < n → TokAt w g 0 (tk i) i := by
  intro i hi
  rcases h.2 with ⟨h2, _⟩ | ⟨g', cap', cur, hv, hb, hc, hn, hm, hsz, htake⟩
  · cases h2
  · injection hv with e1 e2 e3
    injection e1 with e1
    injection e1 with e1
    subst e1
    have key : ∀ j, j < 4 → w.cell? ⟨g, i * 4 + j, none⟩ = (tcells (tk i))[j]? := fun j hj => by
      rw [← flat_get tk n i j hi hj, ← htake, List.getElem?_take_of_lt (by omega)]
      simp [World.cell?, hc]
    refine ⟨?_, ?_, ?_, ?_⟩
    · rw [Nat.zero_add]; exact key 0 (by omega)
    · rw [Nat.zero_add]; exact key 1 (by omega)
    · rw [Nat.zero_add]; exact key 2 (by omega)
    · rw [Nat.zero_add]; exact key 3 (by omega)

theorem owns_block {w : World} {base : Nat} {e : TypeId} {size : Nat} {v : Value} {n : Nat} {xs : List Value} (h : w.ownsRow base e size v n xs) : ∀ g, v.ownBlock = some g → base ≤ g := by
  intro g hg
  rcases h.2 with ⟨rfl, _⟩ | ⟨g', cap, cur, rfl, hb, _⟩
  · simp [Value.ownBlock] at hg
  · simp [Value.ownBlock] at hg
    omega
theorem two_new (w : World) (o1 o2 : Obj) : ((w.alloc o1).alloc o2).drew.heap[w.heap.size + 1]? = some o2 := by
  show ((w.heap.push o1).push o2)[w.heap.size + 1]? = some o2
  have : w.heap.size + 1 = (w.heap.push o1).size := by simp
  rw [this]; exact Array.getElem?_push_size
theorem tcells_one (x : Tk) : ∀ u ∈ tcells x, u.oneCell' = true := by simp [tcells, Value.oneCell']
/-- What the append leaves: the relation of the next round. -/
theorem grew {w wr w2 : World} {o1 o2 : Obj} {v : Value} {base : Nat} {xs : List Value} {n : Nat} (hb : Below w.heap.size w wr) (hown : wr.ownsRow w.heap.size 36 4 v n xs) (hg : ((wr.alloc o1).alloc o2).drew.grownBy w2 v.ownBlock) : Below w.heap.size w w2 := by
  have h1 : Below w.heap.size w ((wr.alloc o1).alloc o2).drew := ((hb.alloc hb.size _).alloc (by have := hb.size; simp; omega) _).drew
  exact h1.grown hg h1.size (owns_block hown)

/-- A parser over the tokens has been built in new memory. -/
def Built (w : World) (len : Nat) (tk : Nat → Tk) (nx ne : Int) (e : Ending) (w' : World) : Prop :=
  ∃ B g gcap, e = .returned (.pointer (some ⟨B, 0, none⟩)) ∧ PB w' B g len gcap nx ne ∧ w.heap.size ≤ g ∧ g < B ∧ (∀ i, i < len → TokAt w' g 0 (tk i) i) ∧ Below w.heap.size w w'
theorem built_of {w wr : World} {len g gcap : Nat} {tk : Nat → Tk} {nx ne : Int} (hown : wr.ownsRow w.heap.size 36 4 (.slice (some ⟨g, 0, none⟩) len gcap) len (flat tk len)) (hb : Below w.heap.size w wr) (hgl : g < wr.heap.size) :
    Built w len tk nx ne (.returned (.pointer (some ⟨wr.heap.size, 0, none⟩))) (wr.alloc (.cells #[.slice (some ⟨g, 0, none⟩) len gcap, .int .i64 nx, .int .i64 ne] 52)) := by
  refine ⟨wr.heap.size, g, gcap, rfl, ?_, owns_block hown g rfl, hgl, ?_, hb.alloc hb.size _⟩
  · unfold PB World.alloc; exact Array.getElem?_push_size
  · exact fun i hi => (toks_of_owns hown i hi).grown (grown_alloc _ _) (by simp)

set_option maxHeartbeats 4000000 in
theorem f10 (b off len cap : Nat) (tk : Nat → Tk) (w : World) (nx ne : Int) (hl : len ≤ 65536) (hl0 : 0 < len) (hbw : b < w.heap.size)
    (h : Hid (∀ i, i < len → TokAt w b off (tk i) i)) :
    Calls Try.prog 10 #[.slice (some ⟨b, off, none⟩) len cap, .int .i64 nx, .int .i64 ne] w fun e w' => Built w len tk nx ne e w' := by
  obtain ⟨i36, hi, hz0, hz1, hz2⟩ := info_parts info36
  have Hi : Hid (Try.prog.info? 36 = some i36) := hi
  have Hz0 : Hid (i36.zero = some (.agg #[.int .i64 0, .string ByteArray.empty, .int .i64 0, .int .i64 0])) := hz0
  have Hz1 : Hid (i36.size = 4) := hz1
  have Hz2 : Hid (i36.bytes = 40) := hz2
  clear hi hz0 hz1 hz2
  go_enter Try.func10, Try.ntmps10
  go_wp2_with (first | (at_make; refine wpList_make_own _ rfl _ _ 45 rfl w.heap.size 36 i36 _ 4 Try.underlying45 Hi.out Hz0.out Hz1.out _ _ _ len rfl rfl (by omega) (by rw [Hz2.out]; omega) (by unfold maxLen; omega) (Nat.le_refl _) ?_; intro w1 hown hgrow))
  have Hown : Hid (w1.ownsRow w.heap.size 36 4 (.slice (some ⟨w.heap.size, 0, none⟩) 0 len) 0 []) := hown
  have Hgrow : Hid (Below w.heap.size w w1) := ⟨hgrow.os, hgrow.tape, hgrow.output, hgrow.size, fun k hk => hgrow.block k hk (by simp)⟩
  clear hown hgrow
  go_loopw [7, 8] (fun v i wr => ∃ k : Nat, k ≤ len ∧ i = .int .i64 k ∧ Hid (wr.ownsRow w.heap.size 36 4 v k (flat tk k)) ∧ Hid (Below w.heap.size w wr)) (fun _ i _ => len - (intOf i).toNat)
  case atStart => exact ⟨0, Nat.zero_le _, rfl, Hown, Hgrow⟩
  case round =>
    obtain ⟨k, hk, rfl, hown, hbel⟩ := hrel
    by_cases hlt : k < len
    · obtain ⟨x0, x1, x2, x3⟩ := (h.out k hlt).grown (grown_of_below hbel.out none) (by simp)
      go_wp2
      go_region_held3 (fun w' => w'.cell? ⟨b, off + k * 4, none⟩ = some (.int .i64 (tk k).k) ∧ w'.cell? ⟨b, off + k * 4 + 1, none⟩ = some (.string (tk k).t) ∧ w'.cell? ⟨b, off + k * 4 + 2, none⟩ = some (.int .i64 (tk k).l) ∧ w'.cell? ⟨b, off + k * 4 + 3, none⟩ = some (.int .i64 (tk k).c)) (go_keep)
        (first | (go_at_call 16; refine (f16 (tk k).k (tk k).t (tk k).l (tk k).c _).mono ?_; rintro e w1 ⟨rfl, rfl⟩) | (refine step_append_lies _ rfl _ _ 45 rfl w.heap.size 36 i36 _ 4 40 Try.underlying45 Hi.out Hz0.out Hz1.out Hz2.out rfl (by decide) u7 k (flat tk k) rfl (by exact owns_grown hown.out (grown_of_below (((Below.refl _ _).alloc (Nat.le_refl _) _).alloc (by simp) _).drew none)) ⟨wr.heap.size + 1, 0, none⟩ 1 1 (tcells (tk k)) rfl rfl (by exact World.news_of_block (cs := #[.int .i64 (tk k).k, .string (tk k).t, .int .i64 (tk k).l, .int .i64 (tk k).c]) (two_new _ _ _)) (tcells_one _) (by decide) (by unfold maxLen; omega) (by omega) (by have := hbel.out.size; simp; omega) _ rfl ?_; intro g gcap w2 hown2 hgrow2 hat hlt2; have Hb2 : Hid (Below w.heap.size w w2) := grew (base := 0) hbel.out hown.out hgrow2; obtain ⟨p0, p1, p2, p3⟩ := (h.out k hlt).grown (grown_of_below Hb2.out none) (by simp); have Ho2 : Hid (w2.ownsRow w.heap.size 36 4 (.slice (some ⟨g, 0, none⟩) (k + 1) gcap) (k + 1) (flat tk k ++ tcells (tk k))) := hown2; clear hown2 hgrow2 hat hlt2))
      rw [← flat_succ] at Ho2
      clear p0 p1 p2 p3 x0 x1 x2 x3
      go_wp2
      go_roundw
      case rel => exact ⟨k + 1, by omega, by go_num, Ho2, Hb2⟩
      case measure => simp [intOf]; omega
    · have hkl : k = len := by omega
      subst hkl
      obtain ⟨g, gcap, rfl, hg0, hg1⟩ := hown.out.form hl0
      clear hlt
      go_wp2_with fail
      refine (f17 _ _ _ _ _ _).mono ?_
      rintro e w' ⟨rfl, rfl⟩
      go_wp2
      go_ret
      exact built_of hown.out hbel.out hg1
end Go.Proofs.Qxb6601732a.fnParserTakeScript
