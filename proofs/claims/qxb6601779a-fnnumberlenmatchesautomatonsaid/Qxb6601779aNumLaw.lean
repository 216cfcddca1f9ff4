import Derived.Test.Qxb6601779aNumLen
namespace Go.Proofs.Qxb6601779a.fnNumberLenMatchesAutomaton
open Go.ChangeShapes Go.WideShapes Go.ChangeAt Go.RowKit bytesKit
set_option linter.unusedVariables false

theorem clone_none (w : World) (zs : List Int) : Calls Try.prog 10 #[.slice none 0 0] w fun e w' => (∃ a, e = .returned (.slice a 0 0) ∧ Hid (BytesAt w' a 0 zs)) ∧ Hid (Below w.heap.size w w') := by
  have hen := eqnil
  go_enter Try.func10, Try.ntmps10
  go_wp2
  go_ret
  exact ⟨⟨none, rfl, .inl rfl⟩, Below.refl _ _⟩

set_option maxHeartbeats 1000000 in
theorem clone_exact (x : Addr) (len cap : Nat) (zs : List Int) (w : World) (hl : len ≤ cap) (hm : len ≤ 1048576) (hz : zs.length = cap) (hc : Hid (∀ i, i < zs.length → w.cell? (x.add i) = some (.int .u8 (zs.getD i 0)))) :
    Calls Try.prog 10 #[.slice (some x) len cap] w fun e w' => (∃ a, e = .returned (.slice a len len) ∧ Hid (BytesAt w' a len zs)) ∧ Hid (Below w.heap.size w w') := by
  obtain ⟨i5, hi, hz0, hz1, hz2⟩ := info_parts info5
  have Hi : Hid (Try.prog.info? 5 = some i5) := hi
  have Hz0 : Hid (i5.zero = some (.int .u8 0)) := hz0
  have Hz1 : Hid (i5.size = 1) := hz1
  have Hz2 : Hid (i5.bytes = 1) := hz2
  clear hi hz0 hz1 hz2
  have Hz : Hid (zs.length = cap) := hz
  clear hz
  have hen := eqnil
  go_enter Try.func10, Try.ntmps10
  go_wp2_with (first
    | (at_make; refine wpList_make_full _ rfl _ _ 22 rfl w.heap.size 5 i5 _ 1 Try.underlying22 Hi.out Hz0.out Hz1.out _ _ _ _ len rfl rfl (by omega) (by omega) (by rw [Hz2.out]; omega) (by unfold maxLen; omega) (Nat.le_refl _) ?_; intro w1 hown hgrow; obtain ⟨cur, hg, hcl⟩ := own_row hown; have HG : Hid (w1.heap[w.heap.size]? = some (.cells cur.toArray 5 (0, 0))) := hg; have HL : Hid (cur.length = len) := (show cur.length = len by omega); have HB : Hid (Below w.heap.size w w1) := ⟨hgrow.os, hgrow.tape, hgrow.output, hgrow.size, fun k hk => hgrow.block k hk (by simp)⟩; clear hg hcl hown hgrow)
    | (refine wpList_copy_splice rfl _ _ 22 22 rfl 5 Try.underlying22 size5 _ _ _ _ _ _ rfl rfl w.heap.size 0 cur 5 HG.out ((zs.take len).map (Value.int .u8)) (by rw [List.length_map, List.length_take, Hz.out]; exact (Nat.min_eq_left hl).trans (Nat.min_self len).symm) (fun _ => ⟨rfl, _, rfl, fun j v hj => clone_src HB.out hc.out Hz.out hl hj⟩) (by rw [List.length_map, List.length_take, Hz.out, HL.out]; omega) (ints_one _) w.heap.size w HB.out (Nat.le_refl _) ?_; intro w2 HG2 hB2; have HB2 : Hid (Below w.heap.size w w2) := hB2; clear hB2))
  go_ret
  have hg2 := HG2.out
  rw [splice_all _ _ (by rw [List.length_map, List.length_take, Hz.out, HL.out]; omega)] at hg2
  refine ⟨⟨_, rfl, .inr ⟨w.heap.size, 0, rfl, fun i hi => ?_⟩⟩, HB2.out⟩
  rw [Nat.zero_add, cell_row hg2, take_get hi (by rw [Hz.out]; exact hl)]

theorem f9_yes (a : Option Addr) (len cap : Nat) (w : World) (h : len ≤ 1048576) : Calls Try.prog 9 #[.slice a len cap] w fun e w' => e = .returned (.bool true) ∧ w' = w := by
  go_enter Try.func9, Try.ntmps9
  go_wp2
  go_ret
  exact ⟨rfl, rfl⟩
theorem f9_no (a : Option Addr) (len cap : Nat) (w : World) (h : 1048576 < len) (hm : len ≤ 9223372036854775807) : Calls Try.prog 9 #[.slice a len cap] w fun e w' => e = .returned (.bool false) ∧ w' = w := by
  go_enter Try.func9, Try.ntmps9
  go_wp2
  go_ret
  exact ⟨rfl, rfl⟩

theorem data_of {w : World} {a : Option Addr} {len : Nat} {zs : List Int} (h : BytesAt w a len zs) (hz : ∀ n ∈ zs, (Lit.int .u8 n).wf = true) : Data w a len (fun i => zs.getD i 0) := by
  refine ⟨h, fun i => ?_⟩
  by_cases hi : i < zs.length
  · have := bounds_u8 (hz zs[i] (List.getElem_mem hi))
    simpa [hi] using this
  · simp [hi]

set_option maxHeartbeats 1000000 in
theorem walk (a0 : Option Addr) (len0 cap0 : Nat) (z0 : List Int) (w : World) (w0 : IsRow .u8 w a0 len0 cap0 z0) :
    Calls Try.prog 3 #[.slice a0 len0 cap0] w fun e w' => e = .returned (.bool true) ∧ Below w.heap.size w w' := by
  have hm : len0 ≤ 9223372036854775807 := by
    rcases w0 with ⟨_, h, _⟩ | ⟨x, _, hl, hc, _⟩
    · omega
    · unfold maxLen at hc; omega
  by_cases hl : 1048576 < len0
  · clear w0
    go_enter Try.func3, Try.ntmps3
    go_wp2_with fail
    refine (f9_no a0 len0 cap0 _ hl hm).mono ?_
    rintro e w' ⟨rfl, rfl⟩
    go_wp2
    go_ret
    exact ⟨rfl, Below.refl _ _⟩
  have hl' : len0 ≤ 1048576 := by omega
  have HC : Hid (Calls Try.prog 10 #[.slice a0 len0 cap0] w fun e w' => (∃ a, e = .returned (.slice a len0 len0) ∧ Hid (BytesAt w' a len0 z0)) ∧ Hid (Below w.heap.size w w')) := by
    rcases w0 with ⟨rfl, rfl, rfl, rfl⟩ | ⟨x, rfl, hle, _, hz, hc, _⟩
    · exact clone_none w []
    · exact clone_exact x len0 cap0 z0 w hle hl' hz hc
  have HZ : Hid (∀ n ∈ z0, (Lit.int .u8 n).wf = true) := by
    rcases w0 with ⟨rfl, rfl, rfl, rfl⟩ | ⟨x, rfl, hle, _, hz, hc, hw⟩
    · exact fun n hn => by cases hn
    · exact hw
  clear w0
  go_enter Try.func3, Try.ntmps3
  go_wp2_with fail
  refine (f9_yes a0 len0 cap0 _ hl').mono ?_
  rintro e w' ⟨rfl, rfl⟩
  go_wp2_with fail
  refine HC.out.mono ?_
  rintro e w1 ⟨⟨a, rfl, hb⟩, hbel⟩
  have HD : Hid (Data w1 a len0 (fun i => z0.getD i 0)) := data_of hb.out HZ.out
  clear hb HC HZ
  go_wp2_with fail
  refine (f11_any a len0 _ w1 hl' HD.out).mono ?_
  rintro e w2 ⟨⟨N, rfl, hN⟩, rfl⟩
  go_wp2_with fail
  refine (f12 a len0 len0 _ w2 hl' HD).mono ?_
  rintro e w3 ⟨⟨M, rfl, hM⟩, rfl⟩
  have hNM : N = M := Res.one hN.out hM.out
  subst hNM
  have hbb : (N == N) = true := by simp
  go_wp2
  go_ret
  exact ⟨rfl, hbel.out⟩
end Go.Proofs.Qxb6601779a.fnNumberLenMatchesAutomaton
