import Derived.Test.Qxb6601779aEscWalks
namespace Go.Proofs.Qxb6601779a.fnEscapedRuneRoundTrip
open Go.ChangeShapes Go.WideShapes Go.ChangeAt Go.RowKit bytesKit
set_option linter.unusedVariables false

/-- The j-th hex digit of r, the greatest first. -/
def dg (r : Int) : Nat → Int
  | 0 => r / 4096 % 16
  | 1 => r / 256 % 16
  | 2 => r / 16 % 16
  | _ => r % 16

/-- Block g holds the text so far: its head, and k hex digits. -/
def Txt (w : World) (g n : Nat) (r : Int) (up : Bool) (k : Nat) : Prop :=
  ∃ cur : List Value, w.heap[g]? = some (.cells cur.toArray 5 (0, 0)) ∧ cur.length = n ∧ cur[0]? = some (.int .u8 92) ∧ cur[1]? = some (.int .u8 117) ∧ ∀ j, j < k → cur[2 + j]? = some (.int .u8 (hexc (dg r j) up))

theorem row_set {w : World} {g i : Nat} {cur : List Value} {t : TypeId} (h : w.heap[g]? = some (.cells cur.toArray t (0, 0))) (v : Value) : (w.setCell ⟨g, i, none⟩ v).heap[g]? = some (.cells (cur.set i v).toArray t (0, 0)) := by
  rw [heap_setCell_same w g i _ t v h]; simp
theorem txt_start {w : World} {g n : Nat} {cur : List Value} {r : Int} {up : Bool} (h : w.heap[g]? = some (.cells cur.toArray 5 (0, 0))) (hl : cur.length = n) (hn : 6 ≤ n) : Txt ((w.setCell ⟨g, 0, none⟩ (.int .u8 92)).setCell ⟨g, 1, none⟩ (.int .u8 117)) g n r up 0 := by
  refine ⟨_, row_set (row_set h _) _, by simp [hl], ?_, ?_, fun j hj => by omega⟩
  · rw [List.getElem?_set_ne (by omega), List.getElem?_set_self (by omega)]
  · rw [List.getElem?_set_self (by simp; omega)]
theorem txt_step {w : World} {g n k : Nat} {r : Int} {up : Bool} (h : Txt w g n r up k) (hk : 2 + k < n) : Txt (w.setCell ⟨g, 2 + k, none⟩ (.int .u8 (hexc (dg r k) up))) g n r up (k + 1) := by
  obtain ⟨cur, hg, hl, h0, h1, hd⟩ := h
  refine ⟨_, row_set hg _, by simp [hl], ?_, ?_, fun j hj => ?_⟩
  · rw [List.getElem?_set_ne (by omega)]; exact h0
  · rw [List.getElem?_set_ne (by omega)]; exact h1
  · by_cases hjk : j = k
    · subst hjk; rw [List.getElem?_set_self (by omega)]
    · rw [List.getElem?_set_ne (by omega)]; exact hd j (by omega)
theorem txt_cell {w : World} {g n k : Nat} {r : Int} {up : Bool} (h : Txt w g n r up k) (i : Nat) (hi : i < n) : (∃ v, w.cell? ⟨g, i, none⟩ = some v) ∧ w.frozen? ⟨g, i, none⟩ = false := by
  obtain ⟨cur, hg, hl, h0, h1, hd⟩ := h
  refine ⟨⟨cur[i]'(by omega), ?_⟩, frozen_of_row w g i _ 5 hg⟩
  rw [cell_row hg]; exact List.getElem?_eq_getElem _

theorem dg_bd (r : Int) (k : Nat) : 0 ≤ dg r k ∧ dg r k < 16 := by
  match k with
  | 0 => show 0 ≤ r / 4096 % 16 ∧ r / 4096 % 16 < 16; omega
  | 1 => show 0 ≤ r / 256 % 16 ∧ r / 256 % 16 < 16; omega
  | 2 => show 0 ≤ r / 16 % 16 ∧ r / 16 % 16 < 16; omega
  | n + 3 => show 0 ≤ r % 16 ∧ r % 16 < 16; omega
theorem bits_dg0 (r : Int) (h0 : 0 ≤ r) (h1 : r ≤ 65535) : bits .and .i32 (r / 4096) 15 % 256 = dg r 0 := by rw [and_i32 _ (by omega) (by omega)]; show _ = r / 4096 % 16; omega
theorem bits_dg1 (r : Int) (h0 : 0 ≤ r) (h1 : r ≤ 65535) : bits .and .i32 (r / 256) 15 % 256 = dg r 1 := by rw [and_i32 _ (by omega) (by omega)]; show _ = r / 256 % 16; omega
theorem bits_dg2 (r : Int) (h0 : 0 ≤ r) (h1 : r ≤ 65535) : bits .and .i32 (r / 16) 15 % 256 = dg r 2 := by rw [and_i32 _ (by omega) (by omega)]; show _ = r / 16 % 16; omega
theorem bits_dg3 (r : Int) (h0 : 0 ≤ r) (h1 : r ≤ 65535) : bits .and .i32 r 15 % 256 = dg r 3 := by rw [and_i32 _ (by omega) (by omega)]; show _ = r % 16; omega

theorem txt_cells {w : World} {g n : Nat} {r : Int} {up : Bool} (h : Txt w g n r up 4) : w.cell? ⟨g, 0, none⟩ = some (.int .u8 92) ∧ w.cell? ⟨g, 0 + 1, none⟩ = some (.int .u8 117) ∧ ∀ k, k < 4 → w.cell? ⟨g, 0 + 2 + k, none⟩ = some (.int .u8 (hexc (dg r k) up)) := by
  obtain ⟨cur, hg, hl, h0, h1, hd⟩ := h
  refine ⟨?_, ?_, fun k hk => ?_⟩
  · rw [cell_row hg]; exact h0
  · rw [cell_row hg]; exact h1
  · rw [cell_row hg, Nat.zero_add]; exact hd k hk
theorem splice_lo {α : Type} (L cs : List α) (off i : Nat) (hi : i < off) (ho : off ≤ L.length) : (splice L off cs)[i]? = L[i]? := by
  unfold splice
  rw [List.getElem?_append_left (by simp; omega), List.getElem?_take_of_lt hi]
theorem acc_dg (r : Int) (h0 : 0 ≤ r) (h1 : r ≤ 65535) : acc (dg r) 4 = r := by
  show (((0 * 16 + r / 4096 % 16) * 16 + r / 256 % 16) * 16 + r / 16 % 16) * 16 + r % 16 = r
  omega
theorem acc_bd (r : Int) : ∀ k, k < 4 → 0 ≤ acc (dg r) k ∧ acc (dg r) k ≤ 4095 := by
  intro k hk
  match k, hk with
  | 0, _ => show 0 ≤ (0 : Int) ∧ (0 : Int) ≤ 4095; omega
  | 1, _ => show 0 ≤ 0 * 16 + r / 4096 % 16 ∧ 0 * 16 + r / 4096 % 16 ≤ 4095; omega
  | 2, _ => show 0 ≤ (0 * 16 + r / 4096 % 16) * 16 + r / 256 % 16 ∧ (0 * 16 + r / 4096 % 16) * 16 + r / 256 % 16 ≤ 4095; omega
  | 3, _ => show 0 ≤ ((0 * 16 + r / 4096 % 16) * 16 + r / 256 % 16) * 16 + r / 16 % 16 ∧ ((0 * 16 + r / 4096 % 16) * 16 + r / 256 % 16) * 16 + r / 16 % 16 ≤ 4095; omega
theorem esc_back {w : World} {g n : Nat} {r : Int} {up : Bool} (h : Txt w g n r up 4) (hn : 6 ≤ n) (hm : n ≤ 2000000) (h0 : 0 ≤ r) (h1 : r ≤ 65535) : Calls Try.prog 17 #[.slice (some ⟨g, 0, none⟩) n n] w fun e w' => e = .returned (.int .i32 r) ∧ w' = w := by
  obtain ⟨c0, c1, cd⟩ := txt_cells h
  refine f17 _ w r ?_
  have := esc_val g 0 n n w hn (Nat.le_refl _) hm (fun k => hexc (dg r k) up) (dg r) c0 c1 cd (fun k hk => hexv _ _ (dg_bd r k).1 (dg_bd r k).2) (acc_bd r)
  rw [acc_dg r h0 h1] at this
  exact this
theorem esc_five (a : Option Addr) (cap : Nat) (w : World) : Calls Try.prog 17 #[.slice a 5 cap] w fun e w' => e = .returned (.int .i32 (-1)) ∧ w' = w := f17 _ w _ (esc_short a 5 cap w (by omega))
theorem esc_cap {w : World} {g n : Nat} {r : Int} {up : Bool} (h : Txt w g n r up 4) (hn : 6 ≤ n) : Calls Try.prog 17 #[.slice (some ⟨g, 0, none⟩) n n] (w.setCell ⟨g, 1, none⟩ (.int .u8 85)) fun e w' => e = .returned (.int .i32 (-1)) ∧ w' = w.setCell ⟨g, 1, none⟩ (.int .u8 85) := by
  obtain ⟨cur, hg, hl, h0, h1, hd⟩ := h
  have hg' := row_set (i := 1) hg (.int .u8 85)
  refine f17 _ _ _ (esc_not g 0 n n _ hn 85 ?_ ?_ rfl)
  · rw [cell_row hg', List.getElem?_set_ne (by omega)]; exact h0
  · rw [cell_row hg', List.getElem?_set_self (by omega)]

theorem tail_src {w w1 : World} {tg toff len : Nat} {zs : List Int} {j : Nat} {v : Value} (hb : Below w.heap.size w w1) (ht : tg < w.heap.size) (hc : ∀ i, i < len → w.cell? ⟨tg, toff + i, none⟩ = some (.int .u8 (zs.getD i 0))) (hl : len ≤ zs.length) (hj : ((zs.take len).map (Value.int .u8))[j]? = some v) :
    w1.cell? ((⟨tg, toff, none⟩ : Addr).add j) = some v := by
  have hjl : j < len := by
    have := (List.getElem?_eq_some_iff.1 hj).1
    simp at this; omega
  rw [add_plain, hb.cell ht, hc j hjl]
  rw [take_get hjl hl] at hj
  exact hj

set_option maxHeartbeats 4000000 in
theorem mainWay (r : Int) (up : Bool) (a : Option Addr) (len cap : Nat) (zs : List Int) (w : World) (h0 : 0 ≤ r) (h1 : r ≤ 65535) (hl : len ≤ 1048576) (h : Hid (IsRow .u8 w a len cap zs)) :
    Calls Try.prog 7 #[.int .i32 r, .bool up, .slice a len cap] w fun e w' => e = .returned (.bool true) ∧ Below w.heap.size w w' := by
  obtain ⟨i5, hi, hz0, hz1, hz2⟩ := info_parts info5
  have Hi : Hid (Try.prog.info? 5 = some i5) := hi
  have Hz0 : Hid (i5.zero = some (.int .u8 0)) := hz0
  have Hz1 : Hid (i5.size = 1) := hz1
  have Hz2 : Hid (i5.bytes = 1) := hz2
  clear hi hz0 hz1 hz2
  have hd1 : decide (1048576 < (len : Int)) = false := by simp; omega
  have hd2 : decide (r < 0) = false := by simp; omega
  have hd3 : decide (65535 < r) = false := by simp; omega
  go_enter Try.func7, Try.ntmps7
  go_wp2_with fail
  refine (f19_yes r up a len cap _ hl).mono ?_
  rintro e w' ⟨rfl, rfl⟩
  go_wp2_with fail
  refine (clone_any a len cap zs _ h.out hl).mono ?_
  rintro e w1 ⟨ta, tcap, rfl, hb, hlt, hbel⟩
  have Hb : Hid (BytesAt w1 ta len zs) := hb
  have Hlt : Hid (∀ x, ta = some x → x.block < w1.heap.size) := hlt
  have Hbel : Hid (Below w'.heap.size w' w1) := hbel
  clear hb hlt hbel
  go_wp2_with (first
    | (at_make; refine wpList_make_full _ rfl _ _ 22 rfl w1.heap.size 5 i5 _ 1 Try.underlying22 Hi.out Hz0.out Hz1.out _ _ _ _ (6 + len) rfl rfl (by omega) (by omega) (by rw [Hz2.out]; omega) (by unfold maxLen; omega) (Nat.le_refl _) ?_; intro w2 hown hgrow; obtain ⟨cur, hg, hcl⟩ := own_row hown; have HG : Hid (w2.heap[w1.heap.size]? = some (.cells cur.toArray 5 (0, 0))) := hg; have HL : Hid (cur.length = 6 + len) := (show cur.length = 6 + len by omega); have HB : Hid (Below w1.heap.size w1 w2) := ⟨hgrow.os, hgrow.tape, hgrow.output, hgrow.size, fun k hk => hgrow.block k hk (by simp)⟩; clear hg hcl hown hgrow; have c0 : w2.cell? ⟨w1.heap.size, 0, none⟩ = some (cur[0]'(by rw [HL.out]; omega)) := (by rw [cell_row HG.out]; simp); have c1 : w2.cell? ⟨w1.heap.size, 1, none⟩ = some (cur[1]'(by rw [HL.out]; omega)) := (by rw [cell_row HG.out]; simp); have z0 := frozen_of_row w2 w1.heap.size 0 _ 5 HG.out; have z1 := frozen_of_row w2 w1.heap.size 1 _ 5 HG.out))
  have Ht : Hid (Txt ((w2.setCell ⟨w1.heap.size, 0, none⟩ (.int .u8 92)).setCell ⟨w1.heap.size, 1, none⟩ (.int .u8 117)) w1.heap.size (6 + len) r up 0) := txt_start HG.out HL.out (by omega)
  have Hw : Hid (Below w1.heap.size w1 ((w2.setCell ⟨w1.heap.size, 0, none⟩ (.int .u8 92)).setCell ⟨w1.heap.size, 1, none⟩ (.int .u8 117))) := (HB.out.setCell (Nat.le_refl _) _).setCell (Nat.le_refl _) _
  clear c0 c1 z0 z1 HG HL HB
  go_loopw [8] (fun i wr => ∃ k : Nat, k ≤ 4 ∧ i = .int .i64 k ∧ Hid (Txt wr w1.heap.size (6 + len) r up k) ∧ Hid (Below w1.heap.size w1 wr)) (fun i _ => 4 - (intOf i).toNat)
  case atStart => exact ⟨0, Nat.zero_le _, rfl, Ht, Hw⟩
  case round =>
    clear Ht Hw
    obtain ⟨k, hk, rfl, Ht, Hw⟩ := hrel
    by_cases hlt : k < 4
    · obtain ⟨⟨cv, hcv⟩, hfz⟩ := txt_cell Ht.out (2 + k) (by omega)
      have hk4 : k = 0 ∨ k = 1 ∨ k = 2 ∨ k = 3 := by omega
      rcases hk4 with rfl | rfl | rfl | rfl
      · have hcv' : wr.cell? ⟨w1.heap.size, 2, none⟩ = some cv := hcv
        have hfz' : wr.frozen? ⟨w1.heap.size, 2, none⟩ = false := hfz
        clear hcv hfz
        go_wp2_with fail
        rw [bits_dg0 r h0 h1]
        refine (f20 (dg r 0) up _ (dg_bd r 0).1 (dg_bd r 0).2).mono ?_
        rintro e w3 ⟨rfl, rfl⟩
        have Ht3 : Hid (Txt (w3.setCell ⟨w1.heap.size, 2, none⟩ (.int .u8 (hexc (dg r 0) up))) w1.heap.size (6 + len) r up (0 + 1)) := txt_step (k := 0) Ht.out (by omega)
        have Hw3 : Hid (Below w1.heap.size w1 (w3.setCell ⟨w1.heap.size, 2, none⟩ (.int .u8 (hexc (dg r 0) up)))) := Hw.out.setCell (Nat.le_refl _) _
        generalize hexc (dg r 0) up = hx at *
        go_wp2
        go_roundw
        case rel => exact ⟨0 + 1, by omega, by go_num, Ht3, Hw3⟩
        case measure => simp [intOf]
      · have hcv' : wr.cell? ⟨w1.heap.size, 3, none⟩ = some cv := hcv
        have hfz' : wr.frozen? ⟨w1.heap.size, 3, none⟩ = false := hfz
        clear hcv hfz
        go_wp2_with fail
        rw [bits_dg1 r h0 h1]
        refine (f20 (dg r 1) up _ (dg_bd r 1).1 (dg_bd r 1).2).mono ?_
        rintro e w3 ⟨rfl, rfl⟩
        have Ht3 : Hid (Txt (w3.setCell ⟨w1.heap.size, 3, none⟩ (.int .u8 (hexc (dg r 1) up))) w1.heap.size (6 + len) r up (1 + 1)) := txt_step (k := 1) Ht.out (by omega)
        have Hw3 : Hid (Below w1.heap.size w1 (w3.setCell ⟨w1.heap.size, 3, none⟩ (.int .u8 (hexc (dg r 1) up)))) := Hw.out.setCell (Nat.le_refl _) _
        generalize hexc (dg r 1) up = hx at *
        go_wp2
        go_roundw
        case rel => exact ⟨1 + 1, by omega, by go_num, Ht3, Hw3⟩
        case measure => simp [intOf]
      · have hcv' : wr.cell? ⟨w1.heap.size, 4, none⟩ = some cv := hcv
        have hfz' : wr.frozen? ⟨w1.heap.size, 4, none⟩ = false := hfz
        clear hcv hfz
        go_wp2_with fail
        rw [bits_dg2 r h0 h1]
        refine (f20 (dg r 2) up _ (dg_bd r 2).1 (dg_bd r 2).2).mono ?_
        rintro e w3 ⟨rfl, rfl⟩
        have Ht3 : Hid (Txt (w3.setCell ⟨w1.heap.size, 4, none⟩ (.int .u8 (hexc (dg r 2) up))) w1.heap.size (6 + len) r up (2 + 1)) := txt_step (k := 2) Ht.out (by omega)
        have Hw3 : Hid (Below w1.heap.size w1 (w3.setCell ⟨w1.heap.size, 4, none⟩ (.int .u8 (hexc (dg r 2) up)))) := Hw.out.setCell (Nat.le_refl _) _
        generalize hexc (dg r 2) up = hx at *
        go_wp2
        go_roundw
        case rel => exact ⟨2 + 1, by omega, by go_num, Ht3, Hw3⟩
        case measure => simp [intOf]
      · have hcv' : wr.cell? ⟨w1.heap.size, 5, none⟩ = some cv := hcv
        have hfz' : wr.frozen? ⟨w1.heap.size, 5, none⟩ = false := hfz
        clear hcv hfz
        go_wp2_with fail
        rw [bits_dg3 r h0 h1]
        refine (f20 (dg r 3) up _ (dg_bd r 3).1 (dg_bd r 3).2).mono ?_
        rintro e w3 ⟨rfl, rfl⟩
        have Ht3 : Hid (Txt (w3.setCell ⟨w1.heap.size, 5, none⟩ (.int .u8 (hexc (dg r 3) up))) w1.heap.size (6 + len) r up (3 + 1)) := txt_step (k := 3) Ht.out (by omega)
        have Hw3 : Hid (Below w1.heap.size w1 (w3.setCell ⟨w1.heap.size, 5, none⟩ (.int .u8 (hexc (dg r 3) up)))) := Hw.out.setCell (Nat.le_refl _) _
        generalize hexc (dg r 3) up = hx at *
        go_wp2
        go_roundw
        case rel => exact ⟨3 + 1, by omega, by go_num, Ht3, Hw3⟩
        case measure => simp [intOf]
    · have hk4 : k = 4 := by omega
      subst hk4
      by_cases hz : len = 0
      · subst hz
        go_wp2_with (refine wpList_copy_nothing rfl _ _ 22 22 rfl 5 Try.underlying22 size5 _ _ _ _ _ _ rfl rfl rfl ?_)
        refine (esc_back (n := 6) Ht.out (by omega) (by omega) h0 h1).mono ?_
        rintro e w3 ⟨rfl, rfl⟩
        have hrr : (r != r) = false := by simp
        go_wp2_with fail
        refine (esc_five _ _ _).mono ?_
        rintro e w4 ⟨rfl, rfl⟩
        obtain ⟨⟨cv, hcv⟩, hfz⟩ := txt_cell Ht.out 1 (by omega)
        go_wp2_with fail
        refine (esc_cap (n := 6) Ht.out (by omega)).mono ?_
        rintro e w5 ⟨rfl, rfl⟩
        have HF : Hid (Below w'.heap.size w' (w4.setCell ⟨w1.heap.size, 1, none⟩ (.int .u8 85))) := (Hbel.out.trans (Hw.out.mono Hbel.out.size)).setCell Hbel.out.size _
        go_wp2
        go_ret
        exact ⟨rfl, HF.out⟩
      · have hpos : 0 < len := by omega
        obtain ⟨tg, toff, rfl, hsrc⟩ := Hb.out.resolve_left hz
        have htg : tg < w1.heap.size := Hlt.out _ rfl
        obtain ⟨cur, hg, hcl, t0, t1, td⟩ := Ht.out
        have HG : Hid (wr.heap[w1.heap.size]? = some (.cells cur.toArray 5 (0, 0))) := hg
        have HL : Hid (cur.length = 6 + len) := hcl
        have Hsrc : Hid (∀ i, i < len → w1.cell? ⟨tg, toff + i, none⟩ = some (.int .u8 (zs.getD i 0))) := hsrc
        have HT : Hid (cur[0]? = some (.int .u8 92) ∧ cur[1]? = some (.int .u8 117) ∧ ∀ j, j < 4 → cur[2 + j]? = some (.int .u8 (hexc (dg r j) up))) := ⟨t0, t1, td⟩
        have Hzl : Hid (len ≤ zs.length) := isRow_len h.out
        clear hg hcl hsrc t0 t1 td Ht Hb hz
        go_wp2_with (refine wpList_copy_splice rfl _ _ 22 22 rfl 5 Try.underlying22 size5 _ _ _ _ _ _ rfl rfl w1.heap.size 6 cur 5 HG.out ((zs.take len).map (Value.int .u8)) (by rw [List.length_map, List.length_take, Nat.min_eq_left Hzl.out]; exact (Nat.min_self len).symm) (fun _ => ⟨rfl, _, rfl, fun j v hj => tail_src Hw.out htg Hsrc.out Hzl.out hj⟩) (by rw [List.length_map, List.length_take, HL.out]; omega) (ints_one _) w1.heap.size w1 Hw.out (Nat.le_refl _) ?_; intro w6 HG6 hB6)
        have Ht6 : Hid (Txt w6 w1.heap.size (6 + len) r up 4) := by
          refine ⟨_, HG6.out, ?_, ?_, ?_, fun j hj => ?_⟩
          · rw [length_splice _ _ _ (by rw [List.length_map, List.length_take, HL.out]; omega)]; exact HL.out
          · rw [splice_lo _ _ _ _ (by omega) (by rw [HL.out]; omega)]; exact HT.out.1
          · rw [splice_lo _ _ _ _ (by omega) (by rw [HL.out]; omega)]; exact HT.out.2.1
          · rw [splice_lo _ _ _ _ (by omega) (by rw [HL.out]; omega)]; exact HT.out.2.2 j hj
        have Hw6 : Hid (Below w1.heap.size w1 w6) := hB6
        clear hB6 HG6 HG HL HT Hsrc Hzl Hw
        refine (esc_back (n := 6 + len) Ht6.out (by omega) (by omega) h0 h1).mono ?_
        rintro e w3 ⟨rfl, rfl⟩
        have hrr : (r != r) = false := by simp
        go_wp2_with fail
        refine (esc_five _ _ _).mono ?_
        rintro e w4 ⟨rfl, rfl⟩
        obtain ⟨⟨cv, hcv⟩, hfz⟩ := txt_cell Ht6.out 1 (by omega)
        go_wp2_with fail
        refine (esc_cap (n := 6 + len) Ht6.out (by omega)).mono ?_
        rintro e w5 ⟨rfl, rfl⟩
        have HF : Hid (Below w'.heap.size w' (w4.setCell ⟨w1.heap.size, 1, none⟩ (.int .u8 85))) := (Hbel.out.trans (Hw6.out.mono Hbel.out.size)).setCell Hbel.out.size _
        go_wp2
        go_ret
        exact ⟨rfl, HF.out⟩

set_option maxHeartbeats 1000000 in
theorem walk (a0 : Int) (a1 : Bool) (a2 : Option Addr) (len2 cap2 : Nat) (z2 : List Int) (w : World) (w0 : (Lit.int .i32 a0).wf = true) (w2 : IsRow .u8 w a2 len2 cap2 z2) :
    Calls Try.prog 7 #[.int .i32 a0, .bool a1, .slice a2 len2 cap2] w fun e w' => e = .returned (.bool true) ∧ Below w.heap.size w w' := by
  clear w0
  have H2 : Hid (IsRow .u8 w a2 len2 cap2 z2) := w2
  have hm : len2 ≤ 9223372036854775807 := by
    rcases w2 with ⟨_, h, _⟩ | ⟨x, _, hl, hc, _⟩
    · omega
    · unfold maxLen at hc; omega
  clear w2
  by_cases hl : 1048576 < len2
  · go_enter Try.func7, Try.ntmps7
    go_wp2_with fail
    refine (f19_no a0 a1 a2 len2 cap2 _ hl hm).mono ?_
    rintro e w' ⟨rfl, rfl⟩
    go_wp2
    go_ret
    exact ⟨rfl, Below.refl _ _⟩
  have hl' : len2 ≤ 1048576 := by omega
  by_cases h0 : a0 < 0
  · go_enter Try.func7, Try.ntmps7
    go_wp2_with fail
    refine (f19_yes a0 a1 a2 len2 cap2 _ hl').mono ?_
    rintro e w' ⟨rfl, rfl⟩
    go_wp2
    go_ret
    exact ⟨rfl, Below.refl _ _⟩
  by_cases h1 : 65535 < a0
  · go_enter Try.func7, Try.ntmps7
    go_wp2_with fail
    refine (f19_yes a0 a1 a2 len2 cap2 _ hl').mono ?_
    rintro e w' ⟨rfl, rfl⟩
    go_wp2
    go_ret
    exact ⟨rfl, Below.refl _ _⟩
  exact mainWay a0 a1 a2 len2 cap2 z2 w (by omega) (by omega) hl' H2
end Go.Proofs.Qxb6601779a.fnEscapedRuneRoundTrip
