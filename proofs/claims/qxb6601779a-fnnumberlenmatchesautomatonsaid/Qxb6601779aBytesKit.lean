import Derived.Test.Qxb6601779aRows
import Derived.WalkKit
import Derived.ProofKit
import Derived.OpenShut
import Derived.Below
import Derived.WalkLawsBesides
import Derived.WalkSpells
import Derived.Laws.CopyOwn
import Derived.Laws.Rows
namespace Go.Proofs.Qxb6601779a.bytesKit
open Go.ChangeShapes Go.WideShapes Go.ChangeAt Go.RowKit
set_option linter.unusedVariables false

theorem info5 : (Try.prog.info? 5).map (fun i => (i.zero, i.size, i.bytes)) = some (some (.int .u8 0), 1, 1) := by kernel_rfl
theorem size5 : (Try.prog.info? 5).map (·.size) = some 1 := by kernel_rfl

theorem eqnil (w : World) (a : Option Addr) (n c : Nat) : (binOp .eql 22 (.slice a n c) (.slice none 0 0)).run Try.prog w = .ok (.bool a.isNone) w := Lib.run_eql_slice_nil w 22 5 a n c 0 0 Try.underlying22

/-- WHAT THE WALK IS TOLD OF A SLICE OF INTEGERS THAT CAME IN. -/
def IsRow (k : IntKind) (w : World) (a : Option Addr) (len cap : Nat) (zs : List Int) : Prop :=
  (a = none ∧ len = 0 ∧ cap = 0 ∧ zs = []) ∨
  ∃ x, a = some x ∧ len ≤ cap ∧ cap ≤ maxLen ∧ zs.length = cap ∧ (∀ i, i < zs.length → w.cell? (x.add i) = some (.int k (zs.getD i 0))) ∧ ∀ n ∈ zs, (Lit.int k n).wf = true

/-- The first len bytes of zs lie from the slice's address on. -/
def BytesAt (w : World) (a : Option Addr) (len : Nat) (zs : List Int) : Prop :=
  len = 0 ∨ ∃ g off, a = some ⟨g, off, none⟩ ∧ ∀ i, i < len → w.cell? ⟨g, off + i, none⟩ = some (.int .u8 (zs.getD i 0))

/-- A fresh copy of len bytes was handed back. -/
def Cloned (w : World) (len : Nat) (zs : List Int) (e : Ending) (w' : World) : Prop :=
  ∃ a cap, e = .returned (.slice a len cap) ∧ BytesAt w' a len zs ∧ (∀ x, a = some x → x.block < w'.heap.size) ∧ Below w.heap.size w w'

theorem clone_nil (w : World) (zs : List Int) : Calls Try.prog 10 #[.slice none 0 0] w fun e w' => Cloned w 0 zs e w' := by
  have hen := eqnil
  go_enter Try.func10, Try.ntmps10
  go_wp2
  go_ret
  exact ⟨none, 0, rfl, .inl rfl, fun x h => (by cases h), Below.refl _ _⟩

theorem own_row {w : World} {base g n cap size : Nat} {e : TypeId} {xs : List Value} (h : w.ownsRow base e size (.slice (some ⟨g, 0, none⟩) n cap) n xs) :
    ∃ cur : List Value, w.heap[g]? = some (.cells cur.toArray e (0, 0)) ∧ cur.length = cap * size := by
  rcases h.2 with ⟨h2, _⟩ | ⟨g', cap', cur, hv, hb, hc, hn, hm, hsz, htake⟩
  · cases h2
  · injection hv with e1 e2 e3
    injection e1 with e1
    injection e1 with e1
    subst e1 e3
    exact ⟨cur.toList, by simpa using hc, by simpa using hsz⟩
theorem splice_all {α : Type} (L cs : List α) (h : cs.length = L.length) : splice L 0 cs = cs := by simp [splice, h]
theorem cell_row {w : World} {g : Nat} {l : List Value} {t : TypeId} (h : w.heap[g]? = some (.cells l.toArray t (0, 0))) (i : Nat) : w.cell? ⟨g, i, none⟩ = l[i]? := by simp [World.cell?, h]
theorem take_get {zs : List Int} {len i : Nat} (hi : i < len) (hl : len ≤ zs.length) : ((zs.take len).map (Value.int .u8))[i]? = some (.int .u8 (zs.getD i 0)) := by
  have : i < zs.length := by omega
  simp [hi, this]
theorem clone_src {w w1 : World} (hb : Below w.heap.size w w1) {x : Addr} {zs : List Int} {cap len j : Nat} {v : Value} (hc : ∀ i, i < zs.length → w.cell? (x.add i) = some (.int .u8 (zs.getD i 0))) (hz : zs.length = cap) (hl : len ≤ cap) (hj : ((zs.take len).map (Value.int .u8))[j]? = some v) : w1.cell? (x.add j) = some v := by
  have hjl : j < len := by
    have := (List.getElem?_eq_some_iff.1 hj).1
    simp at this; omega
  rw [hb.cell (World.block_lt_of_cell? w _ (hc j (by omega))), hc j (by omega)]
  rw [take_get hjl (by omega)] at hj
  exact hj
theorem ints_one (l : List Int) : ∀ v ∈ l.map (Value.int .u8), v.oneCell' = true := by simp [Value.oneCell']

set_option maxHeartbeats 1000000 in
theorem clone_row (x : Addr) (len cap : Nat) (zs : List Int) (w : World) (hl : len ≤ cap) (hm : len ≤ 1048576) (hz : zs.length = cap) (hc : Hid (∀ i, i < zs.length → w.cell? (x.add i) = some (.int .u8 (zs.getD i 0)))) :
    Calls Try.prog 10 #[.slice (some x) len cap] w fun e w' => Cloned w len zs e w' := by
  obtain ⟨i5, hi, hz0, hz1, hz2⟩ := info_parts info5
  have Hi : Hid (Try.prog.info? 5 = some i5) := hi
  have Hz0 : Hid (i5.zero = some (.int .u8 0)) := hz0
  have Hz1 : Hid (i5.size = 1) := hz1
  have Hz2 : Hid (i5.bytes = 1) := hz2
  clear hi hz0 hz1 hz2
  have Hz : Hid (zs.length = cap) := hz
  clear hz
  have hen := eqnil
  go_enter Try.func10, Try.ntmps10
  go_wp2_with (first
    | (at_make; refine wpList_make_full _ rfl _ _ 22 rfl w.heap.size 5 i5 _ 1 Try.underlying22 Hi.out Hz0.out Hz1.out _ _ _ _ len rfl rfl (by omega) (by omega) (by rw [Hz2.out]; omega) (by unfold maxLen; omega) (Nat.le_refl _) ?_; intro w1 hown hgrow; obtain ⟨cur, hg, hcl⟩ := own_row hown; have HG : Hid (w1.heap[w.heap.size]? = some (.cells cur.toArray 5 (0, 0))) := hg; have HL : Hid (cur.length = len) := (show cur.length = len by omega); have HB : Hid (Below w.heap.size w w1) := ⟨hgrow.os, hgrow.tape, hgrow.output, hgrow.size, fun k hk => hgrow.block k hk (by simp)⟩; clear hg hcl hown hgrow)
    | (refine wpList_copy_splice rfl _ _ 22 22 rfl 5 Try.underlying22 size5 _ _ _ _ _ _ rfl rfl w.heap.size 0 cur 5 HG.out ((zs.take len).map (Value.int .u8)) (by rw [List.length_map, List.length_take, Hz.out]; exact (Nat.min_eq_left hl).trans (Nat.min_self len).symm) (fun _ => ⟨rfl, _, rfl, fun j v hj => clone_src HB.out hc.out Hz.out hl hj⟩) (by rw [List.length_map, List.length_take, Hz.out, HL.out]; omega) (ints_one _) w.heap.size w HB.out (Nat.le_refl _) ?_; intro w2 HG2 hB2; have HB2 : Hid (Below w.heap.size w w2) := hB2; clear hB2))
  go_ret
  have hg2 := HG2.out
  rw [splice_all _ _ (by rw [List.length_map, List.length_take, Hz.out, HL.out]; omega)] at hg2
  refine ⟨_, _, rfl, .inr ⟨w.heap.size, 0, rfl, fun i hi => ?_⟩, fun y hy => ?_, HB2.out⟩
  · rw [Nat.zero_add, cell_row hg2, take_get hi (by rw [Hz.out]; exact hl)]
  · injection hy with hy
    subst hy
    exact (Array.getElem?_eq_some_iff.1 hg2).1

theorem clone_any (a : Option Addr) (len cap : Nat) (zs : List Int) (w : World) (h : IsRow .u8 w a len cap zs) (hm : len ≤ 1048576) : Calls Try.prog 10 #[.slice a len cap] w fun e w' => Cloned w len zs e w' := by
  rcases h with ⟨rfl, rfl, rfl, rfl⟩ | ⟨x, rfl, hl, _, hz, hc, _⟩
  · exact clone_nil w []
  · exact clone_row x len cap zs w hl hm hz hc
theorem isRow_len {k : IntKind} {w : World} {a : Option Addr} {len cap : Nat} {zs : List Int} (h : IsRow k w a len cap zs) : len ≤ zs.length := by
  rcases h with ⟨rfl, rfl, rfl, rfl⟩ | ⟨x, rfl, hl, _, hz, hc, _⟩
  · exact Nat.le_refl _
  · omega
end Go.Proofs.Qxb6601779a.bytesKit
