import Derived.Test.Qxb6602095aLinkWalks
namespace Go.Proofs.Qxb6602095a.fnLinkTimedScriptKeepsBounds
open Go.ChangeShapes Go.WideShapes Go.ChangeAt Go.RowKit
set_option linter.unusedVariables false

theorem info3 : (Try.prog.info? 3).map (fun i => (i.zero, i.size, i.bytes)) = some (some (.int .i64 0), 1, 8) := by kernel_rfl
theorem eqnil (w : World) (a : Option Addr) (n c : Nat) : (binOp .eql 22 (.slice a n c) (.slice none 0 0)).run Try.prog w = .ok (.bool a.isNone) w := Lib.run_eql_slice_nil w 22 3 a n c 0 0 Try.underlying22

/-- WHAT THE WALK IS TOLD OF A SLICE OF INTEGERS THAT CAME IN. -/
def IsRow (k : IntKind) (w : World) (a : Option Addr) (len cap : Nat) (zs : List Int) : Prop :=
  (a = none ∧ len = 0 ∧ cap = 0 ∧ zs = []) ∨
  ∃ x, a = some x ∧ len ≤ cap ∧ cap ≤ maxLen ∧ zs.length = cap ∧ (∀ i, i < zs.length → w.cell? (x.add i) = some (.int k (zs.getD i 0))) ∧ ∀ n ∈ zs, (Lit.int k n).wf = true

/-- The first len numbers of zs lie from the slice's address on, in a block of this world. -/
def IntsAt (w : World) (a : Option Addr) (len : Nat) (zs : List Int) : Prop :=
  len = 0 ∨ ∃ g off, a = some ⟨g, off, none⟩ ∧ g < w.heap.size ∧ ∀ i, i < len → w.cell? ⟨g, off + i, none⟩ = some (.int .i64 (zs.getD i 0))
theorem IntsAt.below {w w' : World} {a : Option Addr} {len : Nat} {zs : List Int} (h : IntsAt w a len zs) (hb : Below w.heap.size w w') : IntsAt w' a len zs := by
  rcases h with h | ⟨g, off, rfl, hg, hc⟩
  · exact .inl h
  · exact .inr ⟨g, off, rfl, Nat.lt_of_lt_of_le hg hb.size, fun i hi => by rw [hb.cell hg]; exact hc i hi⟩

def Cloned (w : World) (len : Nat) (zs : List Int) (e : Ending) (w' : World) : Prop :=
  ∃ a, e = .returned (.slice a len len) ∧ IntsAt w' a len zs ∧ Below w.heap.size w w'

theorem clone_nil (w : World) (zs : List Int) : Calls Try.prog 6 #[.slice none 0 0] w fun e w' => Cloned w 0 zs e w' := by
  have hen := eqnil
  go_enter Try.func6, Try.ntmps6
  go_wp2
  go_ret
  exact ⟨none, rfl, .inl rfl, Below.refl _ _⟩

theorem own_row {w : World} {base g n cap size : Nat} {e : TypeId} {xs : List Value} (h : w.ownsRow base e size (.slice (some ⟨g, 0, none⟩) n cap) n xs) :
    ∃ cur : List Value, w.heap[g]? = some (.cells cur.toArray e (0, 0)) ∧ cur.length = cap * size := by
  rcases h.2 with ⟨h2, _⟩ | ⟨g', cap', cur, hv, hb, hc, hn, hm, hsz, htake⟩
  · cases h2
  · injection hv with e1 e2 e3
    injection e1 with e1
    injection e1 with e1
    subst e1 e3
    exact ⟨cur.toList, by simpa using hc, by simpa using hsz⟩
theorem cell_row {w : World} {g : Nat} {l : List Value} {t : TypeId} (h : w.heap[g]? = some (.cells l.toArray t (0, 0))) (i : Nat) : w.cell? ⟨g, i, none⟩ = l[i]? := by simp [World.cell?, h]
theorem row_set {w : World} {g i : Nat} {cur : List Value} {t : TypeId} (h : w.heap[g]? = some (.cells cur.toArray t (0, 0))) (v : Value) : (w.setCell ⟨g, i, none⟩ v).heap[g]? = some (.cells (cur.set i v).toArray t (0, 0)) := by
  rw [heap_setCell_same w g i _ t v h]; simp

/-- Block g holds the first k numbers already. -/
def Part (w : World) (g len : Nat) (zs : List Int) (k : Nat) : Prop :=
  ∃ cur : List Value, w.heap[g]? = some (.cells cur.toArray 3 (0, 0)) ∧ cur.length = len ∧ ∀ j, j < k → cur[j]? = some (.int .i64 (zs.getD j 0))
theorem Part.step {w : World} {g len k : Nat} {zs : List Int} (h : Part w g len zs k) (hk : k < len) : Part (w.setCell ⟨g, k, none⟩ (.int .i64 (zs.getD k 0))) g len zs (k + 1) := by
  obtain ⟨cur, hg, hl, hd⟩ := h
  refine ⟨_, row_set hg _, by simp [hl], fun j hj => ?_⟩
  by_cases hjk : j = k
  · subst hjk; rw [List.getElem?_set_self (by omega)]
  · rw [List.getElem?_set_ne (by omega)]; exact hd j (by omega)
theorem Part.cell {w : World} {g len k : Nat} {zs : List Int} (h : Part w g len zs k) (i : Nat) (hi : i < len) : (∃ v, w.cell? ⟨g, i, none⟩ = some v) ∧ w.frozen? ⟨g, i, none⟩ = false := by
  obtain ⟨cur, hg, hl, hd⟩ := h
  refine ⟨⟨cur[i]'(by omega), ?_⟩, frozen_of_row w g i _ 3 hg⟩
  rw [cell_row hg]; exact List.getElem?_eq_getElem _
theorem Part.done {w : World} {g len : Nat} {zs : List Int} (h : Part w g len zs len) : IntsAt w (some ⟨g, 0, none⟩) len zs := by
  obtain ⟨cur, hg, hl, hd⟩ := h
  exact .inr ⟨g, 0, rfl, (Array.getElem?_eq_some_iff.1 hg).1, fun i hi => by rw [Nat.zero_add, cell_row hg]; exact hd i hi⟩

set_option maxHeartbeats 1000000 in
theorem clone_row (x : Addr) (len cap : Nat) (zs : List Int) (w : World) (hl : len ≤ cap) (hm : len ≤ 65536) (hz : zs.length = cap) (hc : Hid (∀ i, i < zs.length → w.cell? (x.add i) = some (.int .i64 (zs.getD i 0)))) :
    Calls Try.prog 6 #[.slice (some x) len cap] w fun e w' => Cloned w len zs e w' := by
  obtain ⟨i3, hi, hz0, hz1, hz2⟩ := info_parts info3
  have Hi : Hid (Try.prog.info? 3 = some i3) := hi
  have Hz0 : Hid (i3.zero = some (.int .i64 0)) := hz0
  have Hz1 : Hid (i3.size = 1) := hz1
  have Hz2 : Hid (i3.bytes = 8) := hz2
  clear hi hz0 hz1 hz2
  have Hz : Hid (zs.length = cap) := hz
  clear hz
  have hen := eqnil
  go_enter Try.func6, Try.ntmps6
  go_wp2_with (first
    | (at_make; refine wpList_make_full _ rfl _ _ 22 rfl w.heap.size 3 i3 _ 1 Try.underlying22 Hi.out Hz0.out Hz1.out _ _ _ _ len rfl rfl (by omega) (by omega) (by rw [Hz2.out]; omega) (by unfold maxLen; omega) (Nat.le_refl _) ?_; intro w1 hown hgrow; obtain ⟨cur, hg, hcl⟩ := own_row hown; have HP : Hid (Part w1 w.heap.size len zs 0) := (⟨cur, hg, by omega, fun j hj => by omega⟩ : Part w1 w.heap.size len zs 0); have HB : Hid (Below w.heap.size w w1) := ⟨hgrow.os, hgrow.tape, hgrow.output, hgrow.size, fun k hk => hgrow.block k hk (by simp)⟩; clear hg hcl hown hgrow))
  clear hen Hi Hz0 Hz1 Hz2
  go_loopw [4] (fun i wr => ∃ k : Nat, k ≤ len ∧ i = .int .i64 k ∧ Hid (Part wr w.heap.size len zs k) ∧ Hid (Below w.heap.size w wr)) (fun i _ => len - (intOf i).toNat)
  case atStart => exact ⟨0, Nat.zero_le _, rfl, HP, HB⟩
  case round =>
    clear HP HB
    obtain ⟨k, hk, rfl, HP, HB⟩ := hrel
    by_cases hlt : k < len
    · obtain ⟨⟨cv, hcv⟩, hfz⟩ := HP.out.cell k hlt
      have hsrc : wr.cell? (x.add k) = some (.int .i64 (zs.getD k 0)) := by
        have h1 := hc.out k (by rw [Hz.out]; omega)
        rw [HB.out.cell (World.block_lt_of_cell? w _ h1)]; exact h1
      obtain ⟨b, off, spot⟩ := x
      have hspot : spot = none := by simpa [Addr.add] using World.cell?_spot (hc.out 0 (by rw [Hz.out]; omega))
      subst hspot
      rw [add_plain] at hsrc
      have HP2 : Hid (Part (wr.setCell ⟨w.heap.size, k, none⟩ (.int .i64 (zs.getD k 0))) w.heap.size len zs (k + 1)) := HP.out.step hlt
      have HB2 : Hid (Below w.heap.size w (wr.setCell ⟨w.heap.size, k, none⟩ (.int .i64 (zs.getD k 0)))) := HB.out.setCell (Nat.le_refl _) _
      clear HP HB
      generalize zs.getD k 0 = y at *
      go_wp2
      go_roundw
      case rel => exact ⟨k + 1, by omega, by go_num, HP2, HB2⟩
      case measure => simp [intOf]; omega
    · have hkl : k = len := by omega
      subst hkl
      go_wp2
      go_ret
      exact ⟨_, rfl, HP.out.done, HB.out⟩

theorem clone_any (a : Option Addr) (len cap : Nat) (zs : List Int) (w : World) (h : IsRow .i64 w a len cap zs) (hm : len ≤ 65536) : Calls Try.prog 6 #[.slice a len cap] w fun e w' => Cloned w len zs e w' := by
  rcases h with ⟨rfl, rfl, rfl, rfl⟩ | ⟨x, rfl, hl, _, hz, hc, _⟩
  · exact clone_nil w []
  · exact clone_row x len cap zs w hl hm hz hc

/-- The callee returned a bool, whichever. -/
def SomeBool (e : Ending) : Prop := ∃ b, e = .returned (.bool b)
set_option maxHeartbeats 1000000 in
theorem f5 (a0 : Option Addr) (len0 cap0 : Nat) (a1 : Option Addr) (len1 cap1 : Nat) (w : World) (h0 : len0 ≤ 9223372036854775807) (h1 : len1 ≤ 9223372036854775807) :
    Calls Try.prog 5 #[.slice a0 len0 cap0, .slice a1 len1 cap1] w fun e w' => SomeBool e ∧ w' = w := by
  go_enter Try.func5, Try.ntmps5
  go_wp2
  all_goals
    go_ret
    exact ⟨⟨_, rfl⟩, rfl⟩
end Go.Proofs.Qxb6602095a.fnLinkTimedScriptKeepsBounds
