/-
  THE WALK OF otlpB1Utoa: the decimal digits of a uint64, in a fresh row.
-/
import Derived.Test.Qxb6600311aModsClone
namespace Go.Proofs.Qxb6600311aMods
open Go.RowKit
open Plain

/-- The loop's state: 'ds' are the digits that lie in the row from place j on; q is what is left of u. -/
def UI (u : Int) (w : World) (j : Nat) (q : Int) (wr : World) : Prop :=
  ∃ (ds : List Int) (L : List Value), ds.length + j = 20 ∧ allDig ds = true ∧ q * p10 ds.length + val ds = u ∧ wr.heap[w.heap.size]? = some (.cells L.toArray 43 (0, 0)) ∧ L.length = 20 ∧ L.drop j = cellsOf ds ∧ Below w.heap.size w wr

theorem UI.start (u : Int) (w : World) (L : List Value) (hL : L.length = 20) : UI u w 20 u (w.alloc (.cells L.toArray 43)) :=
  ⟨[], L, rfl, rfl, by simp [p10, val], heap_alloc_new _ _, hL, by rw [List.drop_eq_nil_of_le (by omega)]; rfl, (Below.refl _ _).alloc (Nat.le_refl _) _⟩

theorem UI.cell {u : Int} {w : World} {j : Nat} {q : Int} {wr : World} (h : UI u w j q wr) (hj : 1 ≤ j) : (∃ v, wr.cell? ⟨w.heap.size, j - 1, none⟩ = some v) ∧ wr.frozen? ⟨w.heap.size, j - 1, none⟩ = false := by
  obtain ⟨ds, L, e1, _, _, hh, hl, _, _⟩ := h
  refine ⟨⟨L[j - 1]'(by omega), ?_⟩, frozen_of_row _ _ _ _ _ hh⟩
  rw [cell_of_row _ _ _ _ _ _ hh]
  simp [List.getElem?_eq_getElem (show j - 1 < L.length by omega)]

theorem UI.step {u : Int} {w : World} {j : Nat} {q : Int} {wr : World} (h : UI u w j q wr) (hj : 1 ≤ j) :
    UI u w (j - 1) (q / 10) (wr.setCell ⟨w.heap.size, j - 1, none⟩ (.int .u8 (48 + q % 10))) := by
  obtain ⟨ds, L, e1, e2, e3, hh, hl, hd, hb⟩ := h
  refine ⟨(48 + q % 10) :: ds, L.set (j - 1) (.int .u8 (48 + q % 10)), by simp; omega, ?_, ?_, ?_, by simp [hl], ?_, hb.setCell (Nat.le_refl _) _⟩
  · rw [allDig_cons, e2, Bool.and_true, isDig_iff]; omega
  · rw [val_cons, List.length_cons]
    simp only [p10]
    have e4 : 48 + q % 10 - 48 = q % 10 := by omega
    have e5 : q / 10 * (10 * p10 ds.length) + (q % 10) * p10 ds.length = q * p10 ds.length := by
      rw [← Int.mul_assoc, ← Int.add_mul]
      congr 1
      omega
    rw [e4]
    omega
  · rw [heap_setCell_same _ _ _ _ _ _ hh]; simp
  · have e : L.drop (j - 1 + 1) = cellsOf ds := by rw [show j - 1 + 1 = j by omega]; exact hd
    rw [List.drop_eq_getElem_cons (by simp; omega), List.getElem_set_self, List.drop_set_of_lt (by omega), e]
    rfl

theorem UI.more {u : Int} {w : World} {j : Nat} {q : Int} {wr : World} (h : UI u w j q wr) (hq : 1 ≤ q) : p10 (20 - j) ≤ u := by
  obtain ⟨ds, L, e1, e2, e3, _, _, _, _⟩ := h
  have := val_bd e2
  have hp := p10_pos ds.length
  have : 1 * p10 ds.length ≤ q * p10 ds.length := Int.mul_le_mul_of_nonneg_right hq (by omega)
  rw [show 20 - j = ds.length by omega]
  omega
theorem UI.room {u : Int} {w : World} {j : Nat} {q : Int} {wr : World} (h : UI u w j q wr) (hq : 1 ≤ q) (hu : u ≤ 18446744073709551615) : 1 ≤ j := by
  have := h.more hq
  by_cases hj : j = 0
  · rw [hj] at this
    have := p10_20
    simp only [Nat.sub_zero] at *
    omega
  · omega

theorem alen43 : Trym.prog.arrayLen 43 = 20 := by kernel_rfl
theorem elem43 : Trym.prog.elem 43 = 5 := by kernel_rfl
theorem slice43 (B j : Nat) (hj1 : 1 ≤ j) (hj2 : j ≤ 20) (wx : World) :
    (Instr.sliceAt 43 (.pointer (some ⟨B, 0, none⟩)) (some (.int .i64 ((j : Int) - 1))) none none).run Trym.prog wx = .ok (.slice (some ⟨B, j - 1, none⟩) (21 - j) (21 - j)) wx := by
  have hs : (Go.sizeOf 5).run Trym.prog wx = .ok 1 wx := by kernel_rfl
  rw [run_sliceAt_array_l wx 43 ⟨B, 0, none⟩ (by rw [alen43, elem43]; exact Trym.underlying43) .i64 ((j : Int) - 1) (by omega) (by rw [alen43]; omega)]
  rw [elem43, hs, alen43]
  have e : ((j : Int) - 1).toNat = j - 1 := by omega
  simp only [Result.andThen, slicedAt, e]
  rw [if_neg (by omega), plain_add]
  have e2 : 20 - (j - 1) = 21 - j := by omega
  rw [e2]
  simp

theorem UI.size {u : Int} {w : World} {j : Nat} {q : Int} {wr : World} (h : UI u w j q wr) : w.heap.size < wr.heap.size := by
  obtain ⟨_, _, _, _, _, hh, _⟩ := h
  exact lt_of_block hh
theorem UI.grown {u : Int} {w : World} {j : Nat} {q : Int} {wr w1 : World} (h : UI u w j q wr) (hg : wr.grownBy w1 none) : UI u w j q w1 := by
  have hs := h.size
  obtain ⟨ds, L, e1, e2, e3, hh, hl, hd, hb⟩ := h
  exact ⟨ds, L, e1, e2, e3, by rw [hg.block _ hs (by simp)]; exact hh, hl, hd, hb.grown hg (by omega) (by intro k hk; cases hk)⟩
theorem UI.done {u : Int} {w : World} {j : Nat} {q : Int} {wr : World} (h : UI u w j q wr) (hq : q = 0) :
    ∃ ds : List Int, Hid (ds.length = 20 - j) ∧ Hid (allDig ds = true) ∧ Hid (val ds = u) ∧ Hid (Rd wr (some ⟨w.heap.size, j, none⟩) ds) ∧ Hid (Below w.heap.size w wr) := by
  obtain ⟨ds, L, e1, e2, e3, hh, hl, hd, hb⟩ := h
  refine ⟨ds, by show _ = _; omega, e2, by show _ = _; rw [hq] at e3; omega, fun _ => ⟨_, _, rfl, fun k hk => ?_⟩, hb⟩
  rw [cell_of_row _ _ _ _ _ _ hh]
  have e : (L.drop j)[k]? = some (.int .u8 (nth ds k)) := by rw [hd]; exact cellsOf_at hk
  rw [List.getElem?_drop] at e
  simpa using e

set_option maxHeartbeats 400000 in
theorem utoa_any (u : Int) (w : World) (h0 : 0 ≤ u) (h1 : u ≤ 18446744073709551615) :
    Calls Trym.prog 16 #[.int .u64 u] w fun e w' => ∃ g len, ∃ ds : List Int, e = .returned (.slice (some ⟨g, 0, none⟩) len len) ∧ Hid (ds.length = len) ∧ Hid (allDig ds = true) ∧ Hid (val ds = u) ∧ 1 ≤ len ∧ len ≤ 20 ∧
      Hid (len = 1 ∨ p10 (len - 1) ≤ u) ∧ Hid (Rd w' (some ⟨g, 0, none⟩) ds) ∧ Hid (Below w.heap.size w w') := by
  go_enter Trym.func16, Trym.ntmps16
  go_wp2
  go_loopw [0, 4] (fun x i wr => ∃ (q : Int) (j : Nat), x = .int .u64 q ∧ i = .int .i64 j ∧ 1 ≤ j ∧ j ≤ 20 ∧ 0 ≤ q ∧ q ≤ 18446744073709551615 ∧ Hid (j = 20 ∨ 1 ≤ q) ∧ UI u w j q wr) (fun _ i _ => (intOf i).toNat)
  case atStart => exact ⟨u, 20, rfl, rfl, by omega, by omega, h0, h1, .inl rfl, UI.start u w _ rfl⟩
  case round =>
    obtain ⟨q, j, rfl, rfl, hj1, hj2, hq0, hq1, HQ, HU⟩ := hrel
    obtain ⟨⟨old, hcell⟩, hfr⟩ := HU.cell hj1
    by_cases hz : q / 10 = 0
    · have hz' : (q / 10 == 0) = true := by simp [hz]
      obtain ⟨i0, hi, hz0, hz1, hz2⟩ := info_parts info5
      have hq9 : q / 10 = 0 := hz
      have HS := HU.step hj1
      have hs1 := HS.size
      have HLen : Hid (21 - j = 1 ∨ p10 (21 - j - 1) ≤ u) := by
        rcases HQ.out with e | e
        · exact .inl (by omega)
        · refine .inr ?_
          rw [show 21 - j - 1 = 20 - j by omega]
          exact HU.more e
      have HQ9 : Hid (q / 10 = 0) := hq9
      have HS' : Hid (UI u w (j - 1) (q / 10) (wr.setCell ⟨w.heap.size, j - 1, none⟩ (.int .u8 (48 + q % 10)))) := HS
      clear hq9 hz HS
      have HE : Hid ((wr.setCell ⟨w.heap.size, j - 1, none⟩ (.int .u8 (48 + q % 10))).heap.size = wr.heap.size) := by show _ = _; simp [World.setCell]
      have hsl := slice43 w.heap.size j hj1 hj2
      go_wp2_with (first
        | (at_make; refine wpList_make_full _ rfl _ _ 22 rfl w.heap.size 5 i0 (.int .u8 0) 1 Trym.underlying22 hi hz0 hz1 .i64 .i64 _ _ (21 - j) rfl rfl (by omega) (by omega) (by rw [hz2]; omega) (by unfold maxLen; omega) (Nat.le_of_lt HS'.out.size) ?_; intro w1 hown hgrow; obtain ⟨cur, HG, HL⟩ := own_block hown; rw [HE.out] at HG; have HU1 := HS'.out.grown hgrow; obtain ⟨ds, D1, D2, D3, D4, D5⟩ := HU1.done HQ9.out; clear hown hgrow HU1)
        | (with_reducible refine at_copy ?_; go_must (refine wpList_copy_splice rfl (.tmp 21) (.tmp 23) 22 22 rfl 5 Trym.underlying22 size5 _ _ (21 - j) (21 - j) (21 - j) (21 - j) rfl rfl wr.heap.size 0 cur 5 HG.out (cellsOf ds) (by rw [length_cellsOf, D1.out]; exact (show 20 - (j - 1) = 21 - j by omega).trans (Nat.min_self _).symm) (fun h0 => ⟨rfl, D4.out.src (Below.refl _ _) h0⟩) (by rw [length_cellsOf, D1.out, HL.out]; omega) (cellsOf_one ds) w.heap.size w D5.out (by have := HS'.out.size; rw [HE.out] at this; omega) ?_)))
      intro w2 HG2 hB2
      go_wp2
      go_ret
      refine ⟨wr.heap.size, 21 - j, ds, rfl, by show _ = _; rw [D1.out]; omega, D2, D3, by omega, by omega, HLen, fun _ => ⟨_, _, rfl, fun k hk => ?_⟩, hB2⟩
      rw [Nat.zero_add]
      refine cells_block HG2.out ?_
      have e : splice cur 0 (cellsOf ds) = cellsOf ds := by
        rw [splice, List.drop_eq_nil_of_le (by rw [length_cellsOf, D1.out, HL.out]; omega)]; simp
      rw [e]
      exact cellsOf_at hk
    · have hz' : (q / 10 == 0) = false := by simp [hz]
      have hq2 : 1 ≤ q / 10 := by omega
      clear hz
      have HS := HU.step hj1
      have HR := HS.room hq2 h1
      go_wp2
      go_roundw
      case rel => exact ⟨q / 10, j - 1, rfl, by go_num, HR, by omega, by omega, by omega, .inr hq2, HS⟩
      case measure => simp [intOf]; omega

end Go.Proofs.Qxb6600311aMods
