import Derived.Test.Qxb6601732aTakeToks
import Derived.Deep.QuietTactic
import Derived.BigQuiet
import Derived.Deep.RegionHeld3
namespace Go.Proofs.Qxb6601732a.fnParserTakeScript
open Go.ChangeShapes Go.WideShapes Go.ChangeAt Go.RowKit Go.Deep
set_option linter.unusedVariables false

theorem f15 (w : World) : Calls Try.prog 15 #[] w fun e w' => e = .returned (.int .i64 0) ∧ w' = w := by
  go_enter Try.func15, Try.ntmps15
  go_wp2
  go_ret
  exact ⟨rfl, rfl⟩

theorem f16 (k : Int) (t : ByteArray) (l c : Int) (w : World) : Calls Try.prog 16 #[.int .i64 k, .string t, .int .i64 l, .int .i64 c] w
    fun e w' => e = .returned (.agg #[.int .i64 k, .string t, .int .i64 l, .int .i64 c]) ∧ w' = w.alloc (.cells #[.int .i64 k, .string t, .int .i64 l, .int .i64 c] 36) := by
  go_enter Try.func16, Try.ntmps16
  go_wp2
  exact bodyPost_ret (v := .agg #[.int .i64 k, .string t, .int .i64 l, .int .i64 c]) (by simp [results, Try.results16, go_sem]) rfl ⟨rfl, rfl⟩

theorem f17 (a : Option Addr) (len cap : Nat) (n m : Int) (w : World) : Calls Try.prog 17 #[.slice a len cap, .int .i64 n, .int .i64 m] w
    fun e w' => e = .returned (.pointer (some ⟨w.heap.size, 0, none⟩)) ∧ w' = w.alloc (.cells #[.slice a len cap, .int .i64 n, .int .i64 m] 52) := by
  go_enter Try.func17, Try.ntmps17
  go_wp2
  go_ret
  exact ⟨rfl, rfl⟩

theorem f19 (k : Int) (t : ByteArray) (l c : Int) (w : World) : Calls Try.prog 19 #[.agg #[.int .i64 k, .string t, .int .i64 l, .int .i64 c]] w
    fun e w' => e = .returned (.tuple #[.int .i64 k, .string t, .int .i64 l, .int .i64 c]) ∧ ∃ nq, w' = (w.alloc (.cells #[.int .i64 k, .string t, .int .i64 l, .int .i64 c] 36)).drewN nq := by
  go_enter Try.func19, Try.ntmps19
  go_wp2
  go_quiet (fail)
  go_wp2
  exact bodyPost_ret (v := .tuple #[.int .i64 k, .string t, .int .i64 l, .int .i64 c]) (by simp [results, Try.results19, go_sem]) rfl ⟨rfl, _, rfl⟩

theorem bel_drewN {B : Nat} {a w : World} (h : Below B a w) (n : Nat) : Below B a (w.drewN n) := ⟨h.os, h.tape, h.output, h.size, h.block⟩

theorem f12 (k : Int) (t : ByteArray) (l c : Int) (w : World) : Calls Try.prog 12 #[.agg #[.int .i64 k, .string t, .int .i64 l, .int .i64 c], .agg #[.int .i64 k, .string t, .int .i64 l, .int .i64 c]] w
    fun e w' => e = .returned (.bool true) ∧ Below w.heap.size w w' := by
  have hk : (k == k) = true := by simp
  have hl : (l == l) = true := by simp
  have hc : (c == c) = true := by simp
  go_enter Try.func12, Try.ntmps12
  go_wp2_with fail
  refine (f19 k t l c _).mono ?_
  rintro e w' ⟨rfl, nq, rfl⟩
  go_wp2
  go_ret
  exact ⟨rfl, bel_drewN ((((Below.refl _ _).alloc (Nat.le_refl _) _).alloc (by simp) _).alloc (by simp; omega) _) _⟩

/-- Block B holds the parser: its tokens' slice, its cursor, its nesting. -/
def PB (w : World) (B g n cap : Nat) (nx ne : Int) : Prop := w.heap[B]? = some (.cells #[.slice (some ⟨g, 0, none⟩) n cap, .int .i64 nx, .int .i64 ne] 52)
theorem PB.c0 {w : World} {B g n cap : Nat} {nx ne : Int} (h : PB w B g n cap nx ne) : w.cell? ⟨B, 0, none⟩ = some (.slice (some ⟨g, 0, none⟩) n cap) := by simp [World.cell?, show w.heap[B]? = _ from h]
theorem PB.c1 {w : World} {B g n cap : Nat} {nx ne : Int} (h : PB w B g n cap nx ne) : w.cell? ⟨B, 1, none⟩ = some (.int .i64 nx) := by simp [World.cell?, show w.heap[B]? = _ from h]
theorem PB.c2 {w : World} {B g n cap : Nat} {nx ne : Int} (h : PB w B g n cap nx ne) : w.cell? ⟨B, 2, none⟩ = some (.int .i64 ne) := by simp [World.cell?, show w.heap[B]? = _ from h]
theorem PB.fz {w : World} {B g n cap : Nat} {nx ne : Int} (h : PB w B g n cap nx ne) : w.frozen? ⟨B, 1, none⟩ = false := by simp [World.frozen?, show w.heap[B]? = _ from h]
theorem PB.lt {w : World} {B g n cap : Nat} {nx ne : Int} (h : PB w B g n cap nx ne) : B < w.heap.size := World.block_lt_of_cell? w _ h.c0

theorem PB.grown {w w' : World} {r : Option Nat} {B g n cap : Nat} {nx ne : Int} (h : PB w B g n cap nx ne) (hg : w.grownBy w' r) (hne : some B ≠ r) : PB w' B g n cap nx ne := by
  unfold PB; rw [hg.block B h.lt hne]; exact h
theorem PB.set {w : World} {B g n cap : Nat} {nx ne : Int} (h : PB w B g n cap nx ne) (m : Int) : PB (w.setCell ⟨B, 1, none⟩ (.int .i64 m)) B g n cap m ne := by
  unfold PB World.setCell
  simp [Array.getElem?_modify, show w.heap[B]? = _ from h]
theorem grown_set (w : World) (B : Nat) (v : Value) : w.grownBy (w.setCell ⟨B, 1, none⟩ v) (some B) :=
  ⟨rfl, rfl, rfl, by simp [World.setCell], fun k _ hk => Below.heap_setCell _ _ _ _ (fun e => hk (by rw [e]))⟩
theorem grown_of_below {w w' : World} (h : Below w.heap.size w w') (r : Option Nat) : w.grownBy w' r := ⟨h.os, h.tape, h.output, h.size, fun k hk _ => h.block k hk⟩
theorem grown_trans {a b c : World} {r : Option Nat} (h : a.grownBy b r) (k : b.grownBy c r) : a.grownBy c r :=
  ⟨k.os.trans h.os, k.tape.trans h.tape, k.output.trans h.output, Nat.le_trans h.size k.size, fun i hi hr => (k.block i (Nat.lt_of_lt_of_le hi h.size) hr).trans (h.block i hi hr)⟩

theorem f20 (w : World) (B g n cap : Nat) (nx ne : Int) (h : PB w B g n cap nx ne) : Calls Try.prog 20 #[.pointer (some ⟨B, 0, none⟩)] w
    fun e w' => e = .returned (.slice (some ⟨g, 0, none⟩) n cap) ∧ w' = w := by
  have h0 := h.c0
  clear h
  go_enter Try.func20, Try.ntmps20
  go_wp2
  go_ret
  exact ⟨rfl, rfl⟩

theorem f13 (w : World) (B g n cap : Nat) (nx ne : Int) (h : PB w B g n cap nx ne) : Calls Try.prog 13 #[.pointer (some ⟨B, 0, none⟩)] w
    fun e w' => e = .returned (.tuple #[.int .i64 nx, .int .i64 ne]) ∧ ∃ nq, w' = w.drewN nq := by
  have h1 := h.c1
  have h2 := h.c2
  clear h
  go_enter Try.func13, Try.ntmps13
  go_wp2
  go_quiet (fail)
  go_wp2
  go_ret2
  exact ⟨rfl, _, rfl⟩

set_option maxHeartbeats 1000000 in
theorem f18_stay (w : World) (B g n cap : Nat) (nx : Nat) (ne : Int) (x : Tk) (h : PB w B g n cap nx ne) (hn : nx < n) (hnm : n ≤ 65536) (hg : g < w.heap.size) (hx : TokAt w g 0 x nx) (hk : (x.k != 0) = false) : Calls Try.prog 18 #[.pointer (some ⟨B, 0, none⟩)] w
    fun e w' => e = .returned (.agg #[.int .i64 x.k, .string x.t, .int .i64 x.l, .int .i64 x.c]) ∧ Below w.heap.size w w' := by
  have h0 := h.c0
  have h1 := h.c1
  have hfz := h.fz
  have hB := h.lt
  obtain ⟨x0, x1, x2, x3⟩ := hx
  rw [Nat.zero_add] at x0 x1 x2 x3
  clear h
  go_enter Try.func18, Try.ntmps18
  go_wp2
  go_region_held3 (fun w' => w'.cell? ⟨B, 0, none⟩ = some (.slice (some ⟨g, 0, none⟩) n cap) ∧ w'.cell? ⟨B, 1, none⟩ = some (.int .i64 nx) ∧ w'.cell? ⟨g, nx * 4, none⟩ = some (.int .i64 x.k) ∧ w'.cell? ⟨g, nx * 4 + 1, none⟩ = some (.string x.t) ∧
     w'.cell? ⟨g, nx * 4 + 2, none⟩ = some (.int .i64 x.l) ∧ w'.cell? ⟨g, nx * 4 + 3, none⟩ = some (.int .i64 x.c)) (go_keep) (fail)
  go_wp2
  refine bodyPost_ret (v := .agg #[.int .i64 x.k, .string x.t, .int .i64 x.l, .int .i64 x.c]) (by simp [results, Try.results18, go_sem]) rfl ⟨rfl, ?_⟩
  exact (((Below.refl _ _).alloc (Nat.le_refl _) _).alloc (by simp) _).drew
set_option maxHeartbeats 1000000 in
theorem f18_move (w : World) (B g n cap : Nat) (nx : Nat) (ne : Int) (x : Tk) (h : PB w B g n cap nx ne) (hn : nx < n) (hnm : n ≤ 65536) (hg : g < w.heap.size) (hx : TokAt w g 0 x nx) (hk : (x.k != 0) = true) : Calls Try.prog 18 #[.pointer (some ⟨B, 0, none⟩)] w
    fun e w' => e = .returned (.agg #[.int .i64 x.k, .string x.t, .int .i64 x.l, .int .i64 x.c]) ∧ w.grownBy w' (some B) ∧ PB w' B g n cap (nx + 1 : Nat) ne := by
  have h0 := h.c0
  have h1 := h.c1
  have hfz := h.fz
  have hB := h.lt
  obtain ⟨x0, x1, x2, x3⟩ := hx
  rw [Nat.zero_add] at x0 x1 x2 x3
  have HP : Hid (PB w B g n cap nx ne) := h
  clear h
  go_enter Try.func18, Try.ntmps18
  go_wp2
  go_region_held3 (fun w' => w'.cell? ⟨B, 0, none⟩ = some (.slice (some ⟨g, 0, none⟩) n cap) ∧ w'.cell? ⟨B, 1, none⟩ = some (.int .i64 nx) ∧ w'.cell? ⟨g, nx * 4, none⟩ = some (.int .i64 x.k) ∧ w'.cell? ⟨g, nx * 4 + 1, none⟩ = some (.string x.t) ∧
     w'.cell? ⟨g, nx * 4 + 2, none⟩ = some (.int .i64 x.l) ∧ w'.cell? ⟨g, nx * 4 + 3, none⟩ = some (.int .i64 x.c)) (go_keep) (fail)
  go_wp2
  refine bodyPost_ret (v := .agg #[.int .i64 x.k, .string x.t, .int .i64 x.l, .int .i64 x.c]) (by simp [results, Try.results18, go_sem]) rfl ⟨rfl, ?_, ?_⟩
  · exact grown_trans (grown_set w B _) (grown_of_below (((Below.refl _ _).alloc (Nat.le_refl _) _).alloc (by simp) _).drew _)
  · exact (HP.out.set _).grown (grown_of_below (((Below.refl _ _).alloc (Nat.le_refl _) _).alloc (by simp) _).drew none) (by simp)

theorem TokAt.grown {w w' : World} {r : Option Nat} {b off i : Nat} {x : Tk} (h : TokAt w b off x i) (hg : w.grownBy w' r) (hne : some b ≠ r) : TokAt w' b off x i :=
  ⟨hg.cell h.1 hne, hg.cell h.2.1 hne, hg.cell h.2.2.1 hne, hg.cell h.2.2.2 hne⟩
theorem grown_alloc (w : World) (o : Obj) : w.grownBy (w.alloc o) none := grown_of_below ((Below.refl _ _).alloc (Nat.le_refl _) _) _

/-- What a fresh block of four cells holds behind a callee that has left it alone. -/
theorem four {w w' : World} {r : Option Nat} {B : Nat} {v0 v1 v2 v3 : Value} {t : TypeId} (hb : (w.alloc (.cells #[v0, v1, v2, v3] t)).grownBy w' r) (hr : some w.heap.size ≠ r) :
    (w'.cell? ⟨w.heap.size, 0, none⟩ = some v0 ∧ w'.cell? ⟨w.heap.size, 1, none⟩ = some v1 ∧ w'.cell? ⟨w.heap.size, 2, none⟩ = some v2 ∧ w'.cell? ⟨w.heap.size, 3, none⟩ = some v3) ∧
    (w'.frozen? ⟨w.heap.size, 0, none⟩ = false ∧ w'.frozen? ⟨w.heap.size, 1, none⟩ = false ∧ w'.frozen? ⟨w.heap.size, 2, none⟩ = false ∧ w'.frozen? ⟨w.heap.size, 3, none⟩ = false) := by
  have hbl := hb.block w.heap.size (by simp) hr
  have hx : (w.alloc (.cells #[v0, v1, v2, v3] t)).heap[w.heap.size]? = some (.cells #[v0, v1, v2, v3] t) := by unfold World.alloc; exact Array.getElem?_push_size
  rw [hx] at hbl
  simp [World.cell?, World.frozen?, hbl]

set_option maxHeartbeats 400000 in
theorem f11_stay (w : World) (B g n cap : Nat) (nx : Nat) (ne : Int) (x : Tk) (h : PB w B g n cap nx ne) (hn : nx < n) (hnm : n ≤ 65536) (hg : g < w.heap.size) (hx : TokAt w g 0 x nx) (hk : (x.k != 0) = false) : Calls Try.prog 11 #[.pointer (some ⟨B, 0, none⟩)] w
    fun e w' => e = .returned (.agg #[.int .i64 x.k, .string x.t, .int .i64 x.l, .int .i64 x.c]) ∧ Below w.heap.size w w' := by
  have H1 : Hid (∀ o, PB (w.alloc o) B g n cap nx ne ∧ TokAt (w.alloc o) g 0 x nx) := fun o => ⟨h.grown (grown_alloc w o) (by simp), hx.grown (grown_alloc w o) (by simp)⟩
  clear h hx
  go_enter Try.func11, Try.ntmps11
  go_wp2_with fail
  refine (f18_stay _ B g n cap nx ne x (by exact (H1.out _).1) hn hnm (by simp; omega) (by exact (H1.out _).2) hk).mono ?_
  rintro e w' ⟨rfl, hb⟩
  obtain ⟨⟨c0, c1, c2, c3⟩, ⟨z0, z1, z2, z3⟩⟩ := four (B := B) (grown_of_below hb none) (by simp)
  clear hk
  go_wp2
  refine bodyPost_ret (v := .agg #[.int .i64 x.k, .string x.t, .int .i64 x.l, .int .i64 x.c]) (by simp [results, Try.results11, go_sem, c0, c1, c2, c3]) rfl ⟨rfl, ?_⟩
  exact ((((((Below.refl _ _).alloc (Nat.le_refl _) _).trans (hb.mono (by simp))).setCell (Nat.le_refl _) _).setCell (Nat.le_refl _) _).setCell (Nat.le_refl _) _).setCell (Nat.le_refl _) _

theorem grown_setCell {w w' : World} {r : Option Nat} (h : w.grownBy w' r) {a : Addr} (ha : w.heap.size ≤ a.block) (u : Value) : w.grownBy (w'.setCell a u) r :=
  ⟨h.os, h.tape, h.output, Nat.le_trans h.size (by simp [World.setCell]), fun k hk hr => (Below.heap_setCell _ _ _ _ (by omega)).trans (h.block k hk hr)⟩
theorem PB.setCell {w : World} {B g n cap : Nat} {nx ne : Int} (h : PB w B g n cap nx ne) {a : Addr} (ha : B ≠ a.block) (u : Value) : PB (w.setCell a u) B g n cap nx ne := by
  unfold PB; rw [Below.heap_setCell _ _ _ _ ha]; exact h

set_option maxHeartbeats 400000 in
theorem f11_move (w : World) (B g n cap : Nat) (nx : Nat) (ne : Int) (x : Tk) (h : PB w B g n cap nx ne) (hn : nx < n) (hnm : n ≤ 65536) (hg : g < w.heap.size) (hx : TokAt w g 0 x nx) (hk : (x.k != 0) = true) : Calls Try.prog 11 #[.pointer (some ⟨B, 0, none⟩)] w
    fun e w' => e = .returned (.agg #[.int .i64 x.k, .string x.t, .int .i64 x.l, .int .i64 x.c]) ∧ w.grownBy w' (some B) ∧ PB w' B g n cap (nx + 1 : Nat) ne := by
  have hB := h.lt
  have H1 : Hid (∀ o, PB (w.alloc o) B g n cap nx ne ∧ TokAt (w.alloc o) g 0 x nx) := fun o => ⟨h.grown (grown_alloc w o) (by simp), hx.grown (grown_alloc w o) (by simp)⟩
  clear h hx
  go_enter Try.func11, Try.ntmps11
  go_wp2_with fail
  refine (f18_move _ B g n cap nx ne x (by exact (H1.out _).1) hn hnm (by simp; omega) (by exact (H1.out _).2) hk).mono ?_
  rintro e w' ⟨rfl, hb, hp⟩
  obtain ⟨⟨c0, c1, c2, c3⟩, ⟨z0, z1, z2, z3⟩⟩ := four (B := B) hb (by simp; omega)
  have Hp : Hid (PB w' B g n cap (nx + 1 : Nat) ne) := hp
  clear hk hp
  go_wp2
  refine bodyPost_ret (v := .agg #[.int .i64 x.k, .string x.t, .int .i64 x.l, .int .i64 x.c]) (by simp [results, Try.results11, go_sem, c0, c1, c2, c3]) rfl ⟨rfl, ?_, ?_⟩
  · exact grown_setCell (grown_setCell (grown_setCell (grown_setCell (grown_trans (grown_of_below ((Below.refl _ _).alloc (Nat.le_refl _) _) _) hb) (Nat.le_refl _) _) (Nat.le_refl _) _) (Nat.le_refl _) _) (Nat.le_refl _) _
  · exact (((Hp.out.setCell (by simp; omega) _).setCell (by simp; omega) _).setCell (by simp; omega) _).setCell (by simp; omega) _
end Go.Proofs.Qxb6601732a.fnParserTakeScript
