/-
  THE WALK OF FnPlainIntRoundTrip.
-/
import Derived.Test.Qxb6600311aModsIntShared
import Derived.Test.Qxb6600311aModsUtoa
import Derived.Test.Qxb6600311aModsRoundWalk
import Derived.Maps.AppendAt
namespace Go.Proofs.Qxb6600311aMods
open Go.RowKit
open Plain

theorem piB_sf {neg : Bool} {ds : List Int} {n : Nat} (h : accB ds = true) : piB neg ds n = sfB neg (val ds) n := by
  cases neg
  · simp only [piB, sfB, h, Bool.true_and, Bool.false_eq_true, if_false, decide_eq_decide]; omega
  · simp only [piB, sfB, h, Bool.true_and, if_true]

theorem own_rd {w : World} {base g n cap : Nat} {zs : List Int} (h : w.ownsRow base 5 1 (.slice (some ⟨g, 0, none⟩) n cap) n (cellsOf zs)) (hn : zs.length = n) : Rd w (some ⟨g, 0, none⟩) zs := by
  intro _
  refine ⟨g, 0, rfl, fun k hk => ?_⟩
  rw [Nat.zero_add, h.cellAt k (by omega)]
  exact cellsOf_at hk

theorem len19 {len : Nat} {u : Int} (h : len = 1 ∨ p10 (len - 1) ≤ u) (h20 : len ≤ 20) (hu : u < 10000000000000000000) : len ≤ 19 := by
  rcases h with h | h
  · omega
  · by_cases e : len = 20
    · subst e
      have := p10_19
      simp only [Nat.reduceSub] at h
      omega
    · omega

theorem pir_out (v z : Int) (w : World) (h : z < 1 ∨ 64 < z) :
    Calls Trym.prog 9 #[.int .i64 v, .int .i64 z] w fun e w' => e = .returned (.bool true) ∧ w' = w := by
  rcases h with h | h
  · go_enter Trym.func9, Trym.ntmps9
    go_wp2
    go_ret
    exact ⟨rfl, rfl⟩
  · have h2 : ¬ z < 1 := by omega
    go_enter Trym.func9, Trym.ntmps9
    go_wp2
    go_ret
    exact ⟨rfl, rfl⟩

/-- What the positive text gives. -/
theorem pos_facts {ds : List Int} {len : Nat} (hl : ds.length = len) (h1 : 1 ≤ len) (h19 : len ≤ 19) (had : allDig ds = true) : accB ds = true ∧ Sp ds false ds := by
  refine ⟨accB_yes (by omega) (by omega) had, .inr ⟨rfl, rfl, .inr ?_⟩⟩
  have := allDig_get had 0 (by omega)
  omega
theorem neg_facts {ds : List Int} {len : Nat} (hl : ds.length = len) (h1 : 1 ≤ len) (h19 : len ≤ 19) (had : allDig ds = true) : accB ds = true ∧ Sp (45 :: ds) true ds ∧ Byt (45 :: ds) := by
  refine ⟨accB_yes (by omega) (by omega) had, .inl ⟨rfl, by simp, rfl, rfl⟩, ?_⟩
  intro k
  cases k with
  | zero => show (0 : Int) ≤ 45 ∧ (45 : Int) ≤ 255; omega
  | succ k => exact byt_dig had k

set_option maxHeartbeats 1600000 in
theorem pir_pos_yes (v : Int) (n : Nat) (w : World) (hv0 : 0 ≤ v) (hv1 : v ≤ 9223372036854775807) (hn : n ≤ 63) (hs : sfB false v n = true) :
    Calls Trym.prog 9 #[.int .i64 v, .int .i64 ((n : Int) + 1)] w fun e w' => e = .returned (.bool true) ∧ Below w.heap.size w w' := by
  have hd : ¬ ((n : Int) + 1 < 1) := by omega
  have hnv : ¬ v < 0 := by omega
  have HS : Hid (sfB false v n = true) := hs
  clear hs
  obtain ⟨i0, hi, hz0, hz1, hz2⟩ := info_parts info5
  go_enter Trym.func9, Trym.ntmps9
  go_wp2_with (first
    | (go_at_call 16; refine (utoa_any v _ (by omega) (by omega)).mono ?_; rintro e w1 ⟨g1, len, ds, rfl, D1, D2, D3, hl1, hl2, HLen, HR, HB⟩; have hl19 := len19 HLen.out hl2 (by omega))
    | (at_make; go_must (refine wpList_make_own _ rfl _ _ 22 rfl w1.heap.size 5 i0 (.int .u8 0) 1 Trym.underlying22 hi hz0 hz1 .i64 .i64 _ (len + 1) rfl rfl (by omega) (by rw [hz2]; omega) (by unfold maxLen; omega) (Nat.le_refl _) ?_; intro w2 hown2 hgrow2; have HO2 : Hid (w2.ownsRow w1.heap.size 5 1 (.slice (some ⟨w1.heap.size, 0, none⟩) 0 (len + 1)) 0 []) := hown2; have HB2 : Hid (Below w1.heap.size w1 w2) := (Below.refl _ _).grown hgrow2 (Nat.le_refl _) (by intro k hk; cases hk); clear hown2 hgrow2))
    | (at_builtin; go_must (refine wpList_append_fits_any _ rfl (.tmp 37) (.tmp 38) 22 rfl w1.heap.size 5 i0 1 Trym.underlying22 hi hz1 w1.heap.size 0 (len + 1) [] rfl HO2.out (some ⟨g1, 0, none⟩) len len (cellsOf ds) rfl (by rw [length_cellsOf, D1.out]; omega) (by intro h; cases h) (by intro ad had; obtain ⟨ad', e', hc'⟩ := HR.out.src HB2.out (by rw [length_cellsOf, D1.out]; omega); rw [e'] at had; cases had; exact hc') (cellsOf_one ds) (by omega) ?_; intro w3 hown3 hgrow3; rw [Nat.zero_add, List.nil_append] at hown3; have HR3 : Hid (Rd w3 (some ⟨w1.heap.size, 0, none⟩) ds) := own_rd hown3 D1.out; have HB3 : Hid (Below w.heap.size w w3) := HB.out.trans ((HB2.out.grown hgrow3 HB2.out.size (by intro k hk; cases hk; exact Nat.le_refl _)).mono HB.out.size); clear hown3 hgrow3))
    | (go_at_call 24; go_must (refine (zpi_yes _ _ _ n ds false ds v _ hn (by omega) D1.out (byt_dig D2.out) HR3.out (pos_facts D1.out hl1 hl19 D2.out).2 (by rw [piB_sf (pos_facts D1.out hl1 hl19 D2.out).1, D3.out]; exact HS.out) D3.out).mono ?_; rintro e w4 ⟨rfl, rfl⟩))
    | (go_at_call 25; go_must (refine (sf_any false v n true _ (by omega) (by omega) hn HS.out).mono ?_; rintro e w4 ⟨rfl, rfl⟩)))
  go_ret
  exact ⟨rfl, HB3.out⟩

set_option maxHeartbeats 1600000 in
theorem pir_pos_no (v : Int) (n : Nat) (w : World) (hv0 : 0 ≤ v) (hv1 : v ≤ 9223372036854775807) (hn : n ≤ 63) (hs : sfB false v n = false) :
    Calls Trym.prog 9 #[.int .i64 v, .int .i64 ((n : Int) + 1)] w fun e w' => e = .returned (.bool true) ∧ Below w.heap.size w w' := by
  have hd : ¬ ((n : Int) + 1 < 1) := by omega
  have hnv : ¬ v < 0 := by omega
  have HS : Hid (sfB false v n = false) := hs
  clear hs
  obtain ⟨i0, hi, hz0, hz1, hz2⟩ := info_parts info5
  go_enter Trym.func9, Trym.ntmps9
  go_wp2_with (first
    | (go_at_call 16; refine (utoa_any v _ (by omega) (by omega)).mono ?_; rintro e w1 ⟨g1, len, ds, rfl, D1, D2, D3, hl1, hl2, HLen, HR, HB⟩; have hl19 := len19 HLen.out hl2 (by omega))
    | (at_make; go_must (refine wpList_make_own _ rfl _ _ 22 rfl w1.heap.size 5 i0 (.int .u8 0) 1 Trym.underlying22 hi hz0 hz1 .i64 .i64 _ (len + 1) rfl rfl (by omega) (by rw [hz2]; omega) (by unfold maxLen; omega) (Nat.le_refl _) ?_; intro w2 hown2 hgrow2; have HO2 : Hid (w2.ownsRow w1.heap.size 5 1 (.slice (some ⟨w1.heap.size, 0, none⟩) 0 (len + 1)) 0 []) := hown2; have HB2 : Hid (Below w1.heap.size w1 w2) := (Below.refl _ _).grown hgrow2 (Nat.le_refl _) (by intro k hk; cases hk); clear hown2 hgrow2))
    | (at_builtin; go_must (refine wpList_append_fits_any _ rfl (.tmp 37) (.tmp 38) 22 rfl w1.heap.size 5 i0 1 Trym.underlying22 hi hz1 w1.heap.size 0 (len + 1) [] rfl HO2.out (some ⟨g1, 0, none⟩) len len (cellsOf ds) rfl (by rw [length_cellsOf, D1.out]; omega) (by intro h; cases h) (by intro ad had; obtain ⟨ad', e', hc'⟩ := HR.out.src HB2.out (by rw [length_cellsOf, D1.out]; omega); rw [e'] at had; cases had; exact hc') (cellsOf_one ds) (by omega) ?_; intro w3 hown3 hgrow3; rw [Nat.zero_add, List.nil_append] at hown3; have HR3 : Hid (Rd w3 (some ⟨w1.heap.size, 0, none⟩) ds) := own_rd hown3 D1.out; have HB3 : Hid (Below w.heap.size w w3) := HB.out.trans ((HB2.out.grown hgrow3 HB2.out.size (by intro k hk; cases hk; exact Nat.le_refl _)).mono HB.out.size); clear hown3 hgrow3))
    | (go_at_call 24; go_must (refine (zpi_no _ _ _ n ds false ds _ hn (by omega) D1.out (byt_dig D2.out) HR3.out (pos_facts D1.out hl1 hl19 D2.out).2 (by rw [piB_sf (pos_facts D1.out hl1 hl19 D2.out).1, D3.out]; exact HS.out)).mono ?_; rintro e w4 ⟨rfl, rfl⟩))
    | (go_at_call 25; go_must (refine (sf_any false v n false _ (by omega) (by omega) hn HS.out).mono ?_; rintro e w4 ⟨rfl, rfl⟩)))
  go_ret
  exact ⟨rfl, HB3.out⟩

/-- A guard for one append, known by its operands; it turns nothing. -/
theorem at_app (x y : Operand) {P : Program} {ops : Array Oper} {Q : Exit → Act → World → Prop} {dst : Option Tmp} {ts : Array TypeId} {ty : TypeId} {pos : String} {aft : Array Edge} {gd : Option (Nat × Bool)} {rest : List Oper} {a : Act} {w : World}
    (h : wpList P ops Q ({ dst := dst, op := .call { callee := .builtin .append, args := #[x, y], argTypes := ts }, type := ty, pos := pos, after := aft, guard := gd } :: rest) a w) :
    wpList P ops Q ({ dst := dst, op := .call { callee := .builtin .append, args := #[x, y], argTypes := ts }, type := ty, pos := pos, after := aft, guard := gd } :: rest) a w := h

theorem below_own {w1 w2 w3 : World} {o : Obj} (hb : Below w1.heap.size w1 w2) (hg : (w2.alloc o).grownBy w3 (some w1.heap.size)) : Below w1.heap.size w1 w3 :=
  (hb.alloc hb.size o).grown hg (Nat.le_trans hb.size (by simp)) (by intro k hk; cases hk; exact Nat.le_refl _)

set_option maxHeartbeats 1600000 in
theorem pir_neg_yes (v : Int) (n : Nat) (w : World) (hv0 : v < 0) (hv1 : -9223372036854775808 ≤ v) (hn : n ≤ 63) (hs : sfB true (-(v + 1) + 1) n = true) :
    Calls Trym.prog 9 #[.int .i64 v, .int .i64 ((n : Int) + 1)] w fun e w' => e = .returned (.bool true) ∧ Below w.heap.size w w' := by
  have hd : ¬ ((n : Int) + 1 < 1) := by omega
  have HS : Hid (sfB true (-(v + 1) + 1) n = true) := hs
  clear hs
  obtain ⟨i0, hi, hz0, hz1, hz2⟩ := info_parts info5
  go_enter Trym.func9, Trym.ntmps9
  go_wp2_with (first
    | (go_at_call 16; go_must (refine (utoa_any (-(v + 1) + 1) _ (by omega) (by omega)).mono ?_; rintro e w1 ⟨g1, len, ds, rfl, D1, D2, D3, hl1, hl2, HLen, HR, HB⟩; have hl19 := len19 HLen.out hl2 (by omega)))
    | (at_make; go_must (refine wpList_make_own _ rfl _ _ 22 rfl w1.heap.size 5 i0 (.int .u8 0) 1 Trym.underlying22 hi hz0 hz1 .i64 .i64 _ (len + 1) rfl rfl (by omega) (by rw [hz2]; omega) (by unfold maxLen; omega) (Nat.le_refl _) ?_; intro w2 hown2 hgrow2; have HO2 : Hid (w2.ownsRow w1.heap.size 5 1 (.slice (some ⟨w1.heap.size, 0, none⟩) 0 (len + 1)) 0 []) := hown2; have HB2 : Hid (Below w1.heap.size w1 w2) := (Below.refl _ _).grown hgrow2 (Nat.le_refl _) (by intro k hk; cases hk); clear hown2 hgrow2))
    | ((with_reducible refine at_app (.tmp 34) (.tmp 35) ?_); go_must (refine wpList_append_fits _ rfl (.tmp 34) (.tmp 35) 22 rfl w1.heap.size 5 i0 1 Trym.underlying22 hi hz1 w1.heap.size 0 (len + 1) [] rfl (HO2.out.alloc _) ⟨w2.heap.size, 0, none⟩ 1 1 [.int .u8 45] rfl rfl (cell_one_new _ _ _) (cellsOf_one [45]) (by omega) ?_; intro w3 hown3 hgrow3; have HO3 : Hid (w3.ownsRow w1.heap.size 5 1 (.slice (some ⟨w1.heap.size, 0, none⟩) (0 + 1) (len + 1)) (0 + 1) ([] ++ [.int .u8 45])) := hown3; have HB3 : Hid (Below w1.heap.size w1 w3) := below_own HB2.out hgrow3; clear hown3 hgrow3))
    | ((with_reducible refine at_app (.tmp 37) (.tmp 38) ?_); go_must (refine wpList_append_fits_any _ rfl (.tmp 37) (.tmp 38) 22 rfl w1.heap.size 5 i0 1 Trym.underlying22 hi hz1 w1.heap.size 1 (len + 1) [.int .u8 45] rfl HO3.out (some ⟨g1, 0, none⟩) len len (cellsOf ds) rfl (by rw [length_cellsOf, D1.out]; omega) (by intro h; cases h) (by intro ad had; obtain ⟨ad', e', hc'⟩ := HR.out.src HB3.out (by rw [length_cellsOf, D1.out]; omega); rw [e'] at had; cases had; exact hc') (cellsOf_one ds) (by omega) ?_; intro w4 hown4 hgrow4; have HR4 : Hid (Rd w4 (some ⟨w1.heap.size, 0, none⟩) (45 :: ds)) := own_rd (zs := 45 :: ds) hown4 (by rw [List.length_cons, D1.out]; omega); have HB4 : Hid (Below w.heap.size w w4) := HB.out.trans ((HB3.out.grown hgrow4 HB3.out.size (by intro k hk; cases hk; exact Nat.le_refl _)).mono HB.out.size); clear hown4 hgrow4))
    | (go_at_call 24; go_must (refine (zpi_yes _ _ _ n (45 :: ds) true ds v _ hn (by omega) (by rw [List.length_cons, D1.out]; omega) (neg_facts D1.out hl1 hl19 D2.out).2.2 HR4.out (neg_facts D1.out hl1 hl19 D2.out).2.1 (by rw [piB_sf (neg_facts D1.out hl1 hl19 D2.out).1, D3.out]; exact HS.out) (by rw [D3.out]; show -(_ : Int) = _; omega)).mono ?_; rintro e w5 ⟨rfl, rfl⟩))
    | (go_at_call 25; go_must (refine (sf_any true (-(v + 1) + 1) n true _ (by omega) (by omega) hn HS.out).mono ?_; rintro e w5 ⟨rfl, rfl⟩)))
  go_ret
  exact ⟨rfl, HB4.out⟩

set_option maxHeartbeats 1600000 in
theorem pir_neg_no (v : Int) (n : Nat) (w : World) (hv0 : v < 0) (hv1 : -9223372036854775808 ≤ v) (hn : n ≤ 63) (hs : sfB true (-(v + 1) + 1) n = false) :
    Calls Trym.prog 9 #[.int .i64 v, .int .i64 ((n : Int) + 1)] w fun e w' => e = .returned (.bool true) ∧ Below w.heap.size w w' := by
  have hd : ¬ ((n : Int) + 1 < 1) := by omega
  have HS : Hid (sfB true (-(v + 1) + 1) n = false) := hs
  clear hs
  obtain ⟨i0, hi, hz0, hz1, hz2⟩ := info_parts info5
  go_enter Trym.func9, Trym.ntmps9
  go_wp2_with (first
    | (go_at_call 16; go_must (refine (utoa_any (-(v + 1) + 1) _ (by omega) (by omega)).mono ?_; rintro e w1 ⟨g1, len, ds, rfl, D1, D2, D3, hl1, hl2, HLen, HR, HB⟩; have hl19 := len19 HLen.out hl2 (by omega)))
    | (at_make; go_must (refine wpList_make_own _ rfl _ _ 22 rfl w1.heap.size 5 i0 (.int .u8 0) 1 Trym.underlying22 hi hz0 hz1 .i64 .i64 _ (len + 1) rfl rfl (by omega) (by rw [hz2]; omega) (by unfold maxLen; omega) (Nat.le_refl _) ?_; intro w2 hown2 hgrow2; have HO2 : Hid (w2.ownsRow w1.heap.size 5 1 (.slice (some ⟨w1.heap.size, 0, none⟩) 0 (len + 1)) 0 []) := hown2; have HB2 : Hid (Below w1.heap.size w1 w2) := (Below.refl _ _).grown hgrow2 (Nat.le_refl _) (by intro k hk; cases hk); clear hown2 hgrow2))
    | ((with_reducible refine at_app (.tmp 34) (.tmp 35) ?_); go_must (refine wpList_append_fits _ rfl (.tmp 34) (.tmp 35) 22 rfl w1.heap.size 5 i0 1 Trym.underlying22 hi hz1 w1.heap.size 0 (len + 1) [] rfl (HO2.out.alloc _) ⟨w2.heap.size, 0, none⟩ 1 1 [.int .u8 45] rfl rfl (cell_one_new _ _ _) (cellsOf_one [45]) (by omega) ?_; intro w3 hown3 hgrow3; have HO3 : Hid (w3.ownsRow w1.heap.size 5 1 (.slice (some ⟨w1.heap.size, 0, none⟩) (0 + 1) (len + 1)) (0 + 1) ([] ++ [.int .u8 45])) := hown3; have HB3 : Hid (Below w1.heap.size w1 w3) := below_own HB2.out hgrow3; clear hown3 hgrow3))
    | ((with_reducible refine at_app (.tmp 37) (.tmp 38) ?_); go_must (refine wpList_append_fits_any _ rfl (.tmp 37) (.tmp 38) 22 rfl w1.heap.size 5 i0 1 Trym.underlying22 hi hz1 w1.heap.size 1 (len + 1) [.int .u8 45] rfl HO3.out (some ⟨g1, 0, none⟩) len len (cellsOf ds) rfl (by rw [length_cellsOf, D1.out]; omega) (by intro h; cases h) (by intro ad had; obtain ⟨ad', e', hc'⟩ := HR.out.src HB3.out (by rw [length_cellsOf, D1.out]; omega); rw [e'] at had; cases had; exact hc') (cellsOf_one ds) (by omega) ?_; intro w4 hown4 hgrow4; have HR4 : Hid (Rd w4 (some ⟨w1.heap.size, 0, none⟩) (45 :: ds)) := own_rd (zs := 45 :: ds) hown4 (by rw [List.length_cons, D1.out]; omega); have HB4 : Hid (Below w.heap.size w w4) := HB.out.trans ((HB3.out.grown hgrow4 HB3.out.size (by intro k hk; cases hk; exact Nat.le_refl _)).mono HB.out.size); clear hown4 hgrow4))
    | (go_at_call 24; go_must (refine (zpi_no _ _ _ n (45 :: ds) true ds _ hn (by omega) (by rw [List.length_cons, D1.out]; omega) (neg_facts D1.out hl1 hl19 D2.out).2.2 HR4.out (neg_facts D1.out hl1 hl19 D2.out).2.1 (by rw [piB_sf (neg_facts D1.out hl1 hl19 D2.out).1, D3.out]; exact HS.out)).mono ?_; rintro e w5 ⟨rfl, rfl⟩))
    | (go_at_call 25; go_must (refine (sf_any true (-(v + 1) + 1) n false _ (by omega) (by omega) hn HS.out).mono ?_; rintro e w5 ⟨rfl, rfl⟩)))
  go_ret
  exact ⟨rfl, HB4.out⟩

theorem pir_any (v z : Int) (w : World) (hv0 : -9223372036854775808 ≤ v) (hv1 : v ≤ 9223372036854775807) :
    Calls Trym.prog 9 #[.int .i64 v, .int .i64 z] w fun e w' => e = .returned (.bool true) ∧ Below w.heap.size w w' := by
  by_cases h : z < 1 ∨ 64 < z
  · exact (pir_out v z w h).mono fun e w' ⟨he, hw⟩ => ⟨he, hw ▸ Below.refl _ _⟩
  · obtain ⟨n, rfl⟩ : ∃ n : Nat, z = (n : Int) + 1 := ⟨(z - 1).toNat, by omega⟩
    by_cases hneg : v < 0
    · cases hs : sfB true (-(v + 1) + 1) n with
      | true => exact pir_neg_yes v n w hneg hv0 (by omega) hs
      | false => exact pir_neg_no v n w hneg hv0 (by omega) hs
    · cases hs : sfB false v n with
      | true => exact pir_pos_yes v n w (by omega) hv1 (by omega) hs
      | false => exact pir_pos_no v n w (by omega) hv1 (by omega) hs

end Go.Proofs.Qxb6600311aMods
