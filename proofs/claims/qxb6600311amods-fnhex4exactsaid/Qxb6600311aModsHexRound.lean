/-
  THE WALK OF FnHex4RoundTrip.
-/
import Derived.Test.Qxb6600311aModsHex4
import Derived.Laws.BitsAllLaws
namespace Go.Proofs.Qxb6600311aMods
open Go.RowKit
open Plain

theorem and15 (x : Int) (h0 : 0 ≤ x) (h1 : x < 65536) : ∃ d : Nat, bits .and .u16 x 15 = (d : Int) ∧ d < 16 ∧ Hid ((d : Int) = x % 16) := by
  refine ⟨x.toNat % 16, ?_, by omega, by show _ = _; omega⟩
  rw [u16_and x 15 h0 h1 (by omega) (by omega)]
  show ((x.toNat &&& 15 : Nat) : Int) = _
  rw [nat_mask4]
theorem upp_all : ∀ d : Fin 16, hv (((⟨#[48, 49, 50, 51, 52, 53, 54, 55, 56, 57, 65, 66, 67, 68, 69, 70]⟩ : ByteArray)[d.1]'d.2).toNat : Int) = (d.1 : Int) := by decide
theorem upp_hv (d : Nat) (h : d < 16) : hv (((⟨#[48, 49, 50, 51, 52, 53, 54, 55, 56, 57, 65, 66, 67, 68, 69, 70]⟩ : ByteArray)[d]'h).toNat : Int) = d := upp_all ⟨d, h⟩
theorem low_all : ∀ d : Fin 16, hv (((⟨#[48, 49, 50, 51, 52, 53, 54, 55, 56, 57, 97, 98, 99, 100, 101, 102]⟩ : ByteArray)[d.1]'d.2).toNat : Int) = (d.1 : Int) := by decide
theorem low_hv (d : Nat) (h : d < 16) : hv (((⟨#[48, 49, 50, 51, 52, 53, 54, 55, 56, 57, 97, 98, 99, 100, 101, 102]⟩ : ByteArray)[d]'h).toNat : Int) = d := low_all ⟨d, h⟩
theorem byte_bd (x : UInt8) : (0 : Int) ≤ x.toNat ∧ (x.toNat : Int) ≤ 255 := by have := x.toNat_lt; omega

/-- The loop's state: the first k places of the row in block g (n places) hold the hex digits of v's upper 4 k bits. -/
def HI (v : Int) (n g : Nat) (w : World) (k : Nat) (wr : World) : Prop :=
  ∃ (L : List Value) (ds : List Int), wr.heap[g]? = some (.cells L.toArray 5 (0, 0)) ∧ L.length = n ∧ L.take k = cellsOf ds ∧ ds.length = k ∧ hexOk ds = true ∧ Byt ds ∧ hx ds = v / p16 (4 - k) ∧ Below w.heap.size w wr ∧ w.heap.size ≤ g

theorem HI.cell {v : Int} {n g : Nat} {w : World} {k : Nat} {wr : World} (h : HI v n g w k wr) (hk : k < n) : (∃ v, wr.cell? ⟨g, k, none⟩ = some v) ∧ wr.frozen? ⟨g, k, none⟩ = false := by
  obtain ⟨L, ds, hh, hl, _⟩ := h
  refine ⟨⟨L[k]'(by omega), ?_⟩, frozen_of_row _ _ _ _ _ hh⟩
  rw [cell_of_row _ _ _ _ _ _ hh]
  simp [List.getElem?_eq_getElem (show k < L.length by omega)]

theorem nth_snoc (l : List Int) (c : Int) (j : Nat) : nth (l ++ [c]) j = if j < l.length then nth l j else if j = l.length then c else 0 := by
  simp only [nth, List.getD]
  by_cases h : j < l.length
  · rw [if_pos h, List.getElem?_append_left h]
  · rw [if_neg h, List.getElem?_append_right (by omega)]
    by_cases e : j = l.length
    · rw [if_pos e, e]; simp
    · rw [if_neg e, List.getElem?_eq_none (by simp; omega)]; rfl
theorem byt_snoc {l : List Int} {c : Int} (h : Byt l) (h0 : 0 ≤ c) (h1 : c ≤ 255) : Byt (l ++ [c]) := by
  intro j
  rw [nth_snoc]
  have := h j
  split
  · exact this
  · split <;> omega
theorem nth_append (l m : List Int) (j : Nat) : nth (l ++ m) j = if j < l.length then nth l j else nth m (j - l.length) := by
  simp only [nth, List.getD]
  by_cases h : j < l.length
  · rw [if_pos h, List.getElem?_append_left h]
  · rw [if_neg h, List.getElem?_append_right (by omega)]
theorem byt_append {l m : List Int} (h : Byt l) (h' : Byt m) : Byt (l ++ m) := by
  intro j
  rw [nth_append]
  have := h j
  have := h' (j - l.length)
  split <;> assumption

theorem hex_digit_step (v : Int) (k : Nat) (hk : k < 4) : v / p16 (4 - k) * 16 + v / p16 (3 - k) % 16 = v / p16 (4 - (k + 1)) := by
  rcases (show k = 0 ∨ k = 1 ∨ k = 2 ∨ k = 3 by omega) with rfl | rfl | rfl | rfl
  · show v / 65536 * 16 + v / 4096 % 16 = v / 4096; omega
  · show v / 4096 * 16 + v / 256 % 16 = v / 256; omega
  · show v / 256 * 16 + v / 16 % 16 = v / 16; omega
  · show v / 16 * 16 + v / 1 % 16 = v / 1; omega

theorem HI.step {v : Int} {n g : Nat} {w : World} {k : Nat} {wr : World} {c : Int} (h : HI v n g w k wr) (hk : k < n) (hk4 : k < 4) (hc : hv c = v / p16 (3 - k) % 16) (h0 : 0 ≤ c) (h1 : c ≤ 255) :
    HI v n g w (k + 1) (wr.setCell ⟨g, k, none⟩ (.int .u8 c)) := by
  obtain ⟨L, ds, hh, hl, ht, hd, ho, hbt, hx', hb, hg⟩ := h
  refine ⟨L.set k (.int .u8 c), ds ++ [c], ?_, by simp [hl], ?_, by simp [hd], ?_, byt_snoc hbt h0 h1, ?_, hb.setCell hg _, hg⟩
  · rw [heap_setCell_same _ _ _ _ _ _ hh]; simp
  · rw [List.take_succ_eq_append_getElem (by simp; omega), List.getElem_set_self, List.take_set_of_le (Nat.le_refl _), ht]
    rw [cellsOf, cellsOf, List.map_append]; rfl
  · simp only [hexOk, List.all_append, List.all_cons, List.all_nil, Bool.and_true, Bool.and_eq_true, decide_eq_true_eq] at ho ⊢
    refine ⟨ho, ?_⟩
    rw [hc]; omega
  · have e : hx (ds ++ [c]) = hx ds * 16 + hv c := by simp [hx, List.foldl_append]
    rw [e, hx', hc]
    exact hex_digit_step v k hk4

theorem HI.done {v : Int} {n g : Nat} {w : World} {wr : World} (h : HI v n g w 4 wr) :
    ∃ (L : List Value) (ds : List Int), Hid (wr.heap[g]? = some (.cells L.toArray 5 (0, 0))) ∧ Hid (L.length = n) ∧ Hid (L.take 4 = cellsOf ds) ∧ Hid (ds.length = 4) ∧ Hid (hexOk ds = true) ∧ Hid (Byt ds) ∧ Hid (hx ds = v) ∧ Hid (Below w.heap.size w wr) := by
  obtain ⟨L, ds, hh, hl, ht, hd, ho, hbt, hx', hb, hg⟩ := h
  refine ⟨L, ds, hh, hl, ht, hd, ho, hbt, ?_, hb⟩
  have e : v / p16 (4 - 4) = v := by show v / 1 = v; omega
  rw [e] at hx'
  exact hx'

theorem hex_text {w : World} {g len : Nat} {cur : List Value} {ds ys : List Int} (hg : w.heap[g]? = some (.cells (splice cur 4 (cellsOf ys)).toArray 5 (0, 0))) (hl : cur.length = 4 + len) (ht : cur.take 4 = cellsOf ds) (hy : ys.length = len) :
    Rd w (some ⟨g, 0, none⟩) (ds ++ ys) := by
  intro _
  refine ⟨g, 0, rfl, fun k hk => ?_⟩
  rw [Nat.zero_add]
  refine cells_block hg ?_
  have e : splice cur 4 (cellsOf ys) = cellsOf (ds ++ ys) := by
    rw [splice, ht, List.drop_eq_nil_of_le (by rw [length_cellsOf]; omega), List.append_nil, cellsOf, cellsOf, cellsOf, List.map_append]
  rw [e]
  exact cellsOf_at hk
theorem hex_val {ds ys : List Int} {v : Int} (hd : ds.length = 4) (ho : hexOk ds = true) (hx' : hx ds = v) : h4 (ds ++ ys) = v := by
  have e : (ds ++ ys).take 4 = ds := by rw [← hd, List.take_left]
  rw [h4_yes (by rw [e]; exact ho), e]; exact hx'

theorem hrt_big (v up : Int) (a : Option Addr) (len cap : Nat) (w : World) (hl : 1048576 < len) (hm : len ≤ 9223372036854775807) :
    Calls Trym.prog 7 #[.int .u16 v, .int .u8 up, .slice a len cap] w fun e w' => e = .returned (.bool true) ∧ w' = w := by
  go_enter Trym.func7, Trym.ntmps7
  go_wp2
  go_ret
  exact ⟨rfl, rfl⟩

set_option maxHeartbeats 1600000 in
theorem hrt_in (v up : Int) (a : Option Addr) (len cap : Nat) (ys : List Int) (w : World) (hv0 : 0 ≤ v) (hv1 : v ≤ 65535) (_hu0 : 0 ≤ up) (_hu1 : up ≤ 255) (hl : len ≤ 1048576)
    (hz0 : ys.length = len) (hb0 : Byt ys) (hr0 : Rd w a ys) (hn0 : a = none → len = 0 ∧ cap = 0) :
    Calls Trym.prog 7 #[.int .u16 v, .int .u8 up, .slice a len cap] w fun e w' => e = .returned (.bool true) ∧ Below w.heap.size w w' := by
  have hz : Hid (ys.length = len) := hz0
  have hb : Hid (Byt ys) := hb0
  have hr : Hid (Rd w a ys) := hr0
  have hn : Hid (a = none → len = 0 ∧ cap = 0) := hn0
  clear hz0 hb0 hr0 hn0
  obtain ⟨i0, hi, hz0, hz1, hz2⟩ := info_parts info5
  go_enter Trym.func7, Trym.ntmps7
  go_wp2_with (first
    | (go_at_call 12; refine (clone_len _ _ _ ys _ hz.out hl hn.out hr.out).mono ?_; rintro e w1 ⟨a1, cap1, rfl, hcap, HR, HB⟩)
    | (at_make; refine wpList_make_full _ rfl _ _ 22 rfl w1.heap.size 5 i0 (.int .u8 0) 1 Trym.underlying22 hi hz0 hz1 .i64 .i64 _ _ (4 + len) rfl rfl (by omega) (by omega) (by rw [hz2]; omega) (by unfold maxLen; omega) (Nat.le_refl _) ?_; intro w2 hown hgrow; obtain ⟨cur, HG, HL⟩ := own_block hown; have HH0 : Hid (HI v (4 + len) w1.heap.size w1 0 w2) := ⟨cur, [], HG.out, HL.out, rfl, rfl, rfl, fun k => (by simp [nth]), (show (0 : Int) = v / 65536 by omega), (Below.refl _ _).grown hgrow (Nat.le_refl _) (by intro k hk; cases hk), Nat.le_refl _⟩; clear hown hgrow HG HL)
    | go_in)
  go_loopw [8] (fun i wr => ∃ k : Nat, k ≤ 4 ∧ i = .int .i64 k ∧ HI v (4 + len) w1.heap.size w1 k wr) (fun i _ => 4 - (intOf i).toNat)
  case atStart => exact ⟨0, Nat.zero_le _, rfl, HH0.out⟩
  case round =>
    obtain ⟨k, hk, rfl, hH0⟩ := hrel
    have hH : Hid (HI v (4 + len) w1.heap.size w1 k wr) := hH0
    clear hH0
    by_cases hlt : k < 4
    · obtain ⟨⟨old, hcell⟩, hfr⟩ := hH.out.cell (by omega)
      rcases (show k = 0 ∨ k = 1 ∨ k = 2 ∨ k = 3 by omega) with rfl | rfl | rfl | rfl
      · obtain ⟨d, hd, hd16, HD⟩ := and15 (v / 4096) (by omega) (by omega)
        have HC : Hid ((d : Int) = v / p16 (3 - 0) % 16) := by show _ = v / 4096 % 16; rw [HD.out]
        by_cases hbit : (bits .and .u8 (up) 1 == 1) = true
        · have HS : Hid (HI v (4 + len) w1.heap.size w1 1 _) := hH.out.step (by omega) (by omega) ((upp_hv d hd16).trans HC.out) (byte_bd _).1 (byte_bd _).2
          go_wp2
          go_roundw
          case rel => exact ⟨1, by omega, rfl, HS.out⟩
          case measure => simp [intOf]
        · have hbit' : (bits .and .u8 (up) 1 == 1) = false := by simpa using hbit
          clear hbit
          have HS : Hid (HI v (4 + len) w1.heap.size w1 1 _) := hH.out.step (by omega) (by omega) ((low_hv d hd16).trans HC.out) (byte_bd _).1 (byte_bd _).2
          go_wp2
          go_roundw
          case rel => exact ⟨1, by omega, rfl, HS.out⟩
          case measure => simp [intOf]
      · obtain ⟨d, hd, hd16, HD⟩ := and15 (v / 256) (by omega) (by omega)
        have HC : Hid ((d : Int) = v / p16 (3 - 1) % 16) := by show _ = v / 256 % 16; rw [HD.out]
        by_cases hbit : (bits .and .u8 (up / 2) 1 == 1) = true
        · have HS : Hid (HI v (4 + len) w1.heap.size w1 2 _) := hH.out.step (by omega) (by omega) ((upp_hv d hd16).trans HC.out) (byte_bd _).1 (byte_bd _).2
          go_wp2
          go_roundw
          case rel => exact ⟨2, by omega, rfl, HS.out⟩
          case measure => simp [intOf]
        · have hbit' : (bits .and .u8 (up / 2) 1 == 1) = false := by simpa using hbit
          clear hbit
          have HS : Hid (HI v (4 + len) w1.heap.size w1 2 _) := hH.out.step (by omega) (by omega) ((low_hv d hd16).trans HC.out) (byte_bd _).1 (byte_bd _).2
          go_wp2
          go_roundw
          case rel => exact ⟨2, by omega, rfl, HS.out⟩
          case measure => simp [intOf]
      · obtain ⟨d, hd, hd16, HD⟩ := and15 (v / 16) (by omega) (by omega)
        have HC : Hid ((d : Int) = v / p16 (3 - 2) % 16) := by show _ = v / 16 % 16; rw [HD.out]
        by_cases hbit : (bits .and .u8 (up / 4) 1 == 1) = true
        · have HS : Hid (HI v (4 + len) w1.heap.size w1 3 _) := hH.out.step (by omega) (by omega) ((upp_hv d hd16).trans HC.out) (byte_bd _).1 (byte_bd _).2
          go_wp2
          go_roundw
          case rel => exact ⟨3, by omega, rfl, HS.out⟩
          case measure => simp [intOf]
        · have hbit' : (bits .and .u8 (up / 4) 1 == 1) = false := by simpa using hbit
          clear hbit
          have HS : Hid (HI v (4 + len) w1.heap.size w1 3 _) := hH.out.step (by omega) (by omega) ((low_hv d hd16).trans HC.out) (byte_bd _).1 (byte_bd _).2
          go_wp2
          go_roundw
          case rel => exact ⟨3, by omega, rfl, HS.out⟩
          case measure => simp [intOf]
      · obtain ⟨d, hd, hd16, HD⟩ := and15 (v) (by omega) (by omega)
        have HC : Hid ((d : Int) = v / p16 (3 - 3) % 16) := by show _ = v / 1 % 16; rw [HD.out]; omega
        by_cases hbit : (bits .and .u8 (up / 8) 1 == 1) = true
        · have HS : Hid (HI v (4 + len) w1.heap.size w1 4 _) := hH.out.step (by omega) (by omega) ((upp_hv d hd16).trans HC.out) (byte_bd _).1 (byte_bd _).2
          go_wp2
          go_roundw
          case rel => exact ⟨4, by omega, rfl, HS.out⟩
          case measure => simp [intOf]
        · have hbit' : (bits .and .u8 (up / 8) 1 == 1) = false := by simpa using hbit
          clear hbit
          have HS : Hid (HI v (4 + len) w1.heap.size w1 4 _) := hH.out.step (by omega) (by omega) ((low_hv d hd16).trans HC.out) (byte_bd _).1 (byte_bd _).2
          go_wp2
          go_roundw
          case rel => exact ⟨4, by omega, rfl, HS.out⟩
          case measure => simp [intOf]
    · have hk4 : k = 4 := by omega
      subst hk4
      obtain ⟨cur, ds, C1, C2, C3, C4, C5, C6, C7, C8⟩ := hH.out.done
      clear hH
      have HB0 : Hid (Below w.heap.size w wr) := HB.out.trans (C8.out.mono HB.out.size)
      by_cases hpos : 0 < len
      · go_wp2_with (first
          | (with_reducible refine at_copy ?_; go_must (refine wpList_copy_splice rfl (.tmp 52) (.tmp 53) 22 22 rfl 5 Trym.underlying22 size5 _ _ len len len cap1 rfl rfl w1.heap.size 4 cur 5 C1.out (cellsOf ys) (by rw [length_cellsOf, hz.out]; exact (Nat.min_self _).symm) (fun h0 => ⟨rfl, HR.out.src C8.out h0⟩) (by rw [length_cellsOf, hz.out, C2.out]; omega) (cellsOf_one ys) w.heap.size w HB0.out HB.out.size ?_; intro w3 HG3 hB3))
          | (go_at_call 20; go_must (refine (zhex4_any _ _ _ (ds ++ ys) _ (by rw [List.length_append, C4.out, hz.out]) (by omega) (by omega) (byt_append C6.out hb.out) (hex_text HG3.out C2.out C3.out hz.out)).mono ?_; rw [hex_val C4.out C5.out C7.out]; rintro e w4 ⟨rfl, rfl⟩)))
        go_ret
        exact ⟨rfl, hB3⟩
      · obtain rfl : len = 0 := by omega
        go_wp2_with (first
          | (with_reducible refine at_copy ?_; go_must (refine wpList_copy_splice rfl (.tmp 52) (.tmp 53) 22 22 rfl 5 Trym.underlying22 size5 _ _ 0 0 0 cap1 rfl rfl w1.heap.size 4 cur 5 C1.out (cellsOf ys) (by rw [length_cellsOf, hz.out]; exact (Nat.min_self _).symm) (fun h0 => absurd h0 (by rw [length_cellsOf, hz.out]; omega)) (by rw [length_cellsOf, hz.out, C2.out]; omega) (cellsOf_one ys) w.heap.size w HB0.out HB.out.size ?_; intro w3 HG3 hB3))
          | (go_at_call 20; go_must (refine (zhex4_any _ _ _ (ds ++ ys) _ (by rw [List.length_append, C4.out, hz.out]) (by omega) (by omega) (byt_append C6.out hb.out) (hex_text HG3.out C2.out C3.out hz.out)).mono ?_; rw [hex_val C4.out C5.out C7.out]; rintro e w4 ⟨rfl, rfl⟩)))
        go_ret
        exact ⟨rfl, hB3⟩

theorem hrt_any (v up : Int) (a : Option Addr) (len cap : Nat) (ys : List Int) (w : World) (hv0 : 0 ≤ v) (hv1 : v ≤ 65535) (hu0 : 0 ≤ up) (hu1 : up ≤ 255)
    (hz : ys.length = len) (hb : Byt ys) (hr : Rd w a ys) (hn : a = none → len = 0 ∧ cap = 0) (hm : len ≤ 9223372036854775807) :
    Calls Trym.prog 7 #[.int .u16 v, .int .u8 up, .slice a len cap] w fun e w' => e = .returned (.bool true) ∧ Below w.heap.size w w' := by
  by_cases hl : 1048576 < len
  · exact (hrt_big v up a len cap w hl hm).mono fun e w' ⟨he, hw⟩ => ⟨he, hw ▸ Below.refl _ _⟩
  · exact hrt_in v up a len cap ys w hv0 hv1 hu0 hu1 (by omega) hz hb hr hn

end Go.Proofs.Qxb6600311aMods
