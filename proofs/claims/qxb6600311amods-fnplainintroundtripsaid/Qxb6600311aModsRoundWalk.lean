/-
  THE WALK OF FnPlainDigitsRoundTrip.
-/
import Derived.Test.Qxb6600311aModsUtoa
import Derived.Test.Qxb6600311aModsShared
namespace Go.Proofs.Qxb6600311aMods
open Go.RowKit
open Plain

theorem pdr_out (u z : Int) (w : World) (h : z < 0 ∨ 65536 < z) :
    Calls Trym.prog 4 #[.int .u64 u, .int .i64 z] w fun e w' => e = .returned (.bool true) ∧ w' = w := by
  rcases h with h | h
  · go_enter Trym.func4, Trym.ntmps4
    go_wp2
    go_ret
    exact ⟨rfl, rfl⟩
  · have h2 : ¬ z < 0 := by omega
    go_enter Trym.func4, Trym.ntmps4
    go_wp2
    go_ret
    exact ⟨rfl, rfl⟩

/-- The loop that lays the zeros: of the row in block g (n places) the first k hold '0'. -/
def ZI (n g : Nat) (w : World) (k : Nat) (wr : World) : Prop :=
  ∃ L : List Value, wr.heap[g]? = some (.cells L.toArray 5 (0, 0)) ∧ L.length = n ∧ L.take k = cellsOf (List.replicate k 48) ∧ Below w.heap.size w wr ∧ w.heap.size ≤ g

theorem ZI.cell {n g : Nat} {w : World} {k : Nat} {wr : World} (h : ZI n g w k wr) (hk : k < n) : (∃ v, wr.cell? ⟨g, k, none⟩ = some v) ∧ wr.frozen? ⟨g, k, none⟩ = false := by
  obtain ⟨L, hh, hl, _, _⟩ := h
  refine ⟨⟨L[k]'(by omega), ?_⟩, frozen_of_row _ _ _ _ _ hh⟩
  rw [cell_of_row _ _ _ _ _ _ hh]
  simp [List.getElem?_eq_getElem (show k < L.length by omega)]

theorem ZI.step {n g : Nat} {w : World} {k : Nat} {wr : World} (h : ZI n g w k wr) (hk : k < n) : ZI n g w (k + 1) (wr.setCell ⟨g, k, none⟩ (.int .u8 48)) := by
  obtain ⟨L, hh, hl, ht, hb, hg⟩ := h
  refine ⟨L.set k (.int .u8 48), ?_, by simp [hl], ?_, hb.setCell hg _, hg⟩
  · rw [heap_setCell_same _ _ _ _ _ _ hh]; simp
  · rw [List.take_succ_eq_append_getElem (by simp; omega), List.getElem_set_self, List.take_set_of_le (Nat.le_refl _), ht]
    rw [List.replicate_succ', cellsOf, cellsOf, List.map_append]; rfl

theorem ZI.parts {n g : Nat} {w : World} {k : Nat} {wr : World} (h : ZI n g w k wr) :
    ∃ L : List Value, Hid (wr.heap[g]? = some (.cells L.toArray 5 (0, 0))) ∧ Hid (L.length = n) ∧ Hid (L.take k = cellsOf (List.replicate k 48)) ∧ Hid (Below w.heap.size w wr) := by
  obtain ⟨L, hh, hl, ht, hb, _⟩ := h
  exact ⟨L, hh, hl, ht, hb⟩

theorem text_row {w : World} {g zn len : Nat} {cur : List Value} {ds : List Int} (hg : w.heap[g]? = some (.cells (splice cur zn (cellsOf ds)).toArray 5 (0, 0))) (hl : cur.length = zn + len) (ht : cur.take zn = cellsOf (List.replicate zn 48)) (hd : ds.length = len) :
    Rd w (some ⟨g, 0, none⟩) (List.replicate zn 48 ++ ds) := by
  intro _
  refine ⟨g, 0, rfl, fun k hk => ?_⟩
  rw [Nat.zero_add]
  refine cells_block hg ?_
  have e : splice cur zn (cellsOf ds) = cellsOf (List.replicate zn 48 ++ ds) := by
    rw [splice, ht, List.drop_eq_nil_of_le (by rw [length_cellsOf]; omega), List.append_nil, cellsOf, cellsOf, cellsOf, List.map_append]
  rw [e]
  exact cellsOf_at hk

theorem byt_dig {ds : List Int} (h : allDig ds = true) : Byt ds := by
  intro k
  by_cases hk : k < ds.length
  · have := allDig_get h k hk; omega
  · have : nth ds k = 0 := by
      simp only [nth, List.getD]
      rw [List.getElem?_eq_none (by omega)]; rfl
    omega

theorem zeros_facts {zn len : Nat} {ds : List Int} {u : Int} (hd : ds.length = len) (had : allDig ds = true) (hv : val ds = u) :
    (List.replicate zn 48 ++ ds).length = zn + len ∧ allDig (List.replicate zn 48 ++ ds) = true ∧ val (List.replicate zn 48 ++ ds) = u := by
  refine ⟨by simp [hd], ?_, ?_⟩
  · rw [allDig_append, allDig_zeros, had]; rfl
  · rw [val_append, val_zeros, hv]; omega

set_option maxHeartbeats 800000 in
theorem pdr_in (u : Int) (zn : Nat) (w : World) (h0 : 0 ≤ u) (h1 : u ≤ 18446744073709551615) (hz : zn ≤ 65536) :
    Calls Trym.prog 4 #[.int .u64 u, .int .i64 zn] w fun e w' => e = .returned (.bool true) ∧ Below w.heap.size w w' := by
  have hd : ¬ (zn : Int) < 0 := by omega
  obtain ⟨i0, hi, hz0, hz1, hz2⟩ := info_parts info5
  go_enter Trym.func4, Trym.ntmps4
  go_wp2_with (first
    | (go_at_call 16; refine (utoa_any u _ h0 h1).mono ?_; rintro e w1 ⟨g1, len, ds, rfl, D1, D2, D3, hl1, hl2, HLen, HR, HB⟩)
    | (at_make; refine wpList_make_full _ rfl _ _ 22 rfl w1.heap.size 5 i0 (.int .u8 0) 1 Trym.underlying22 hi hz0 hz1 .i64 .i64 _ _ (zn + len) rfl rfl (by omega) (by omega) (by rw [hz2]; omega) (by unfold maxLen; omega) (Nat.le_refl _) ?_; intro w2 hown hgrow; obtain ⟨cur, HG, HL⟩ := own_block hown; have HZ0 : Hid (ZI (zn + len) w1.heap.size w1 0 w2) := ⟨cur, HG.out, HL.out, rfl, (Below.refl _ _).grown hgrow (Nat.le_refl _) (by intro k hk; cases hk), Nat.le_refl _⟩; clear hown hgrow HG HL))
  go_loopw [7] (fun i wr => ∃ k : Nat, k ≤ zn ∧ i = .int .i64 k ∧ ZI (zn + len) w1.heap.size w1 k wr) (fun i _ => zn - (intOf i).toNat)
  case atStart => exact ⟨0, Nat.zero_le _, rfl, HZ0.out⟩
  case round =>
    obtain ⟨k, hk, rfl, hZ⟩ := hrel
    by_cases hlt : k < zn
    · obtain ⟨⟨old, hcell⟩, hfr⟩ := hZ.cell (by omega)
      have HS : Hid (ZI (zn + len) w1.heap.size w1 (k + 1) (wr.setCell ⟨w1.heap.size, k, none⟩ (.int .u8 48))) := hZ.step (by omega)
      clear hZ
      go_wp2
      go_roundw
      case rel => exact ⟨k + 1, by omega, by go_num, HS.out⟩
      case measure => simp [intOf]; omega
    · have hkz : k = zn := by omega
      subst hkz
      obtain ⟨cur, C1, C2, C3, C4⟩ := hZ.parts
      clear hZ
      obtain ⟨F1, F2, F3⟩ := zeros_facts (zn := k) D1.out D2.out D3.out
      have G1 : Hid ((List.replicate k 48 ++ ds).length = k + len) := F1
      have G2 : Hid (allDig (List.replicate k 48 ++ ds) = true) := F2
      have G3 : Hid (val (List.replicate k 48 ++ ds) = u) := F3
      clear F1 F2 F3
      have HB0 : Hid (Below w.heap.size w wr) := HB.out.trans (C4.out.mono HB.out.size)
      by_cases h19 : 19 < k + len
      · have HN : Hid (accB (List.replicate k 48 ++ ds) = false) := accB_len20 (by rw [G1.out]; exact h19)
        go_wp2_with (first
          | (with_reducible refine at_copy ?_; go_must (refine wpList_copy_splice rfl (.tmp 33) (.tmp 34) 22 22 rfl 5 Trym.underlying22 size5 _ _ len len len len rfl rfl w1.heap.size k cur 5 C1.out (cellsOf ds) (by rw [length_cellsOf, D1.out]; exact (Nat.min_self _).symm) (fun h0 => ⟨rfl, HR.out.src C4.out h0⟩) (by rw [length_cellsOf, D1.out, C2.out]; omega) (cellsOf_one ds) w.heap.size w HB0.out HB.out.size ?_; intro w3 HG3 hB3))
          | (go_at_call 13; go_must (refine (zpd_no _ _ _ (List.replicate k 48 ++ ds) _ G1.out (byt_dig G2.out) HN.out (text_row HG3.out C2.out C3.out D1.out)).mono ?_; rintro e w4 ⟨rfl, rfl⟩)))
        go_ret
        exact ⟨rfl, hB3⟩
      · have HN : Hid (accB (List.replicate k 48 ++ ds) = true) := accB_yes (by rw [G1.out]; omega) (by rw [G1.out]; omega) G2.out
        go_wp2_with (first
          | (with_reducible refine at_copy ?_; go_must (refine wpList_copy_splice rfl (.tmp 33) (.tmp 34) 22 22 rfl 5 Trym.underlying22 size5 _ _ len len len len rfl rfl w1.heap.size k cur 5 C1.out (cellsOf ds) (by rw [length_cellsOf, D1.out]; exact (Nat.min_self _).symm) (fun h0 => ⟨rfl, HR.out.src C4.out h0⟩) (by rw [length_cellsOf, D1.out, C2.out]; omega) (cellsOf_one ds) w.heap.size w HB0.out HB.out.size ?_; intro w3 HG3 hB3))
          | (go_at_call 13; go_must (refine (zpd_yes _ _ _ (List.replicate k 48 ++ ds) _ G1.out (byt_dig G2.out) HN.out (text_row HG3.out C2.out C3.out D1.out)).mono ?_; rw [G3.out]; rintro e w4 ⟨rfl, rfl⟩)))
        go_ret
        exact ⟨rfl, hB3⟩

theorem pdr_any (u z : Int) (w : World) (h0 : 0 ≤ u) (h1 : u ≤ 18446744073709551615) :
    Calls Trym.prog 4 #[.int .u64 u, .int .i64 z] w fun e w' => e = .returned (.bool true) ∧ Below w.heap.size w w' := by
  by_cases h : z < 0 ∨ 65536 < z
  · exact (pdr_out u z w h).mono fun e w' ⟨he, hw⟩ => ⟨he, hw ▸ Below.refl _ _⟩
  · obtain ⟨zn, rfl⟩ : ∃ n : Nat, z = n := ⟨z.toNat, by omega⟩
    exact pdr_in u zn w h0 h1 (by omega)

end Go.Proofs.Qxb6600311aMods
