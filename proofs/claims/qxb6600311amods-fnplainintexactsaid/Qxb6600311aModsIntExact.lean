/-
  THE WALK OF FnPlainIntExact. The bit size is written n + 1, n from 0 to 63.
-/
import Derived.Test.Qxb6600311aModsIntShared
namespace Go.Proofs.Qxb6600311aMods
open Go.RowKit
open Plain

theorem pie_big (a : Option Addr) (len cap : Nat) (z : Int) (w : World) (hl : 1048576 < len) (hm : len ≤ 9223372036854775807) :
    Calls Trym.prog 8 #[.slice a len cap, .int .i64 z] w fun e w' => e = .returned (.bool true) ∧ w' = w := by
  go_enter Trym.func8, Trym.ntmps8
  go_wp2
  go_ret
  exact ⟨rfl, rfl⟩
theorem pie_out (a : Option Addr) (len cap : Nat) (z : Int) (w : World) (hl : len ≤ 1048576) (h : z < 1 ∨ 64 < z) :
    Calls Trym.prog 8 #[.slice a len cap, .int .i64 z] w fun e w' => e = .returned (.bool true) ∧ w' = w := by
  rcases h with h | h
  · go_enter Trym.func8, Trym.ntmps8
    go_wp2
    go_ret
    exact ⟨rfl, rfl⟩
  · have h2 : ¬ z < 1 := by omega
    go_enter Trym.func8, Trym.ntmps8
    go_wp2
    go_ret
    exact ⟨rfl, rfl⟩

theorem piB_sf' {neg : Bool} {ds : List Int} {n : Nat} (h : accB ds = true) : piB neg ds n = sfB neg (val ds) n := by
  cases neg
  · simp only [piB, sfB, h, Bool.true_and, Bool.false_eq_true, if_false, decide_eq_decide]; omega
  · simp only [piB, sfB, h, Bool.true_and, if_true]

theorem clone_pos (a : Option Addr) (len cap : Nat) (ys : List Int) (w : World) (hz : ys.length = len) (h1 : 1 ≤ len) (hl : len ≤ 1048576) (hr : Rd w a ys) :
    Calls Trym.prog 12 #[.slice a len cap] w fun e w' => ∃ g, e = .returned (.slice (some ⟨g, 0, none⟩) len len) ∧ Hid (Rd w' (some ⟨g, 0, none⟩) ys) ∧ w'.cell? ⟨g, 0, none⟩ = some (.int .u8 (nth ys 0)) ∧ Hid (Below w.heap.size w w') := by
  obtain ⟨b, off, rfl, _⟩ := hr (by omega)
  refine (clone_row ⟨b, off, none⟩ len cap ys w hz hl hr).mono ?_
  rintro e w' ⟨g, rfl, hc, hb⟩
  exact ⟨g, rfl, fun _ => ⟨g, 0, rfl, fun k hk => hc k (by omega)⟩, hc 0 (by omega), hb⟩
theorem Rd.tail1 {w : World} {g : Nat} {ys : List Int} (h : Rd w (some ⟨g, 0, none⟩) ys) : Rd w (some ⟨g, 1, none⟩) ys.tail := by
  intro h0
  have := h.tail (cap := ys.length + 1) (by omega)
  rw [List.length_tail] at h0
  rw [if_neg (by omega)] at this
  exact this (by rw [List.length_tail]; exact h0)

theorem pie_empty (a : Option Addr) (cap n : Nat) (w : World) (hn : n ≤ 63) (hn0 : a = none → (0 : Nat) = 0 ∧ cap = 0) :
    Calls Trym.prog 8 #[.slice a 0 cap, .int .i64 ((n : Int) + 1)] w fun e w' => e = .returned (.bool true) ∧ Below w.heap.size w w' := by
  have hn' : Hid (a = none → (0 : Nat) = 0 ∧ cap = 0) := hn0
  clear hn0
  have hd : ¬ ((n : Int) + 1 < 1) := by omega
  go_enter Trym.func8, Trym.ntmps8
  go_wp2_with (first
    | (go_at_call 12; go_must (refine (clone_len _ 0 _ [] _ rfl (by omega) hn'.out (fun h => by simp at h)).mono ?_; rintro e w1 ⟨a1, cap1, rfl, hcap, HR, HB⟩))
    | (go_at_call 24; go_must (refine (zpi_no _ 0 _ n [] false [] _ hn hcap rfl (fun k => by simp [nth]) HR.out (.inr ⟨rfl, rfl, .inl rfl⟩) rfl).mono ?_; rintro e w' ⟨rfl, rfl⟩))
    | go_in)
  go_ret
  exact ⟨rfl, HB.out⟩

set_option maxHeartbeats 1600000 in
theorem pie_pos_long (a : Option Addr) (len cap n : Nat) (ys : List Int) (w : World) (hn : n ≤ 63) (hl : len ≤ 1048576) (h1 : 1 ≤ len) (hz0 : ys.length = len) (hb0 : Byt ys) (hr0 : Rd w a ys) (hp : nth ys 0 ≠ 45) (h19 : 19 < len) :
    Calls Trym.prog 8 #[.slice a len cap, .int .i64 ((n : Int) + 1)] w fun e w' => e = .returned (.bool true) ∧ Below w.heap.size w w' := by
  have hd : ¬ ((n : Int) + 1 < 1) := by omega
  have hz : Hid (ys.length = len) := hz0
  have hb : Hid (Byt ys) := hb0
  have hr : Hid (Rd w a ys) := hr0
  clear hz0 hb0 hr0
  have HP : Hid (nth ys 0 ≠ 45) := hp
  have hp' : (nth ys 0 == 45) = false := by simp [hp]
  clear hp
  have HA : Hid (piB false ys n = false) := piB_no (accB_len20 (by rw [hz.out]; exact h19))
  have hd3 : decide ((len : Int) < 1) = false := by simp; omega
  go_enter Trym.func8, Trym.ntmps8
  go_wp2_with (first
    | (go_at_call 12; go_must (refine (clone_pos _ _ _ ys _ hz.out h1 hl hr.out).mono ?_; rintro e w1 ⟨g, rfl, HR, hcell, HB⟩))
    | (go_at_call 24; go_must (refine (zpi_no _ _ _ n ys false ys _ hn (Nat.le_refl _) hz.out hb.out HR.out (.inr ⟨rfl, rfl, .inr HP.out⟩) HA.out).mono ?_; rintro e w' ⟨rfl, rfl⟩))
    | go_in)
  go_ret
  exact ⟨rfl, HB.out⟩

set_option maxHeartbeats 1600000 in
theorem pie_pos_nodig (a : Option Addr) (len cap n : Nat) (ys : List Int) (w : World) (hn : n ≤ 63) (hl : len ≤ 1048576) (h1 : 1 ≤ len) (hz0 : ys.length = len) (hb0 : Byt ys) (hr0 : Rd w a ys) (hp : nth ys 0 ≠ 45) (h19 : len ≤ 19) (hdig : allDig ys = false) :
    Calls Trym.prog 8 #[.slice a len cap, .int .i64 ((n : Int) + 1)] w fun e w' => e = .returned (.bool true) ∧ Below w.heap.size w w' := by
  have hd : ¬ ((n : Int) + 1 < 1) := by omega
  have hz : Hid (ys.length = len) := hz0
  have hb : Hid (Byt ys) := hb0
  have hr : Hid (Rd w a ys) := hr0
  clear hz0 hb0 hr0
  have HP : Hid (nth ys 0 ≠ 45) := hp
  have hp' : (nth ys 0 == 45) = false := by simp [hp]
  clear hp
  have HD : Hid (allDig ys = false) := hdig
  have HA : Hid (piB false ys n = false) := piB_no (accB_no hdig)
  clear hdig
  have hd3 : decide ((len : Int) < 1) = false := by simp; omega
  go_enter Trym.func8, Trym.ntmps8
  go_wp2_with (first
    | (go_at_call 12; go_must (refine (clone_pos _ _ _ ys _ hz.out h1 hl hr.out).mono ?_; rintro e w1 ⟨g, rfl, HR, hcell, HB⟩))
    | (go_at_call 24; go_must (refine (zpi_no _ _ _ n ys false ys _ hn (Nat.le_refl _) hz.out hb.out HR.out (.inr ⟨rfl, rfl, .inr HP.out⟩) HA.out).mono ?_; rintro e w' ⟨rfl, rfl⟩))
    | (go_at_call 14; go_must (refine (ad_len _ _ _ ys _ false hz.out (by omega) hb.out HD.out HR.out).mono ?_; rintro e w' ⟨rfl, rfl⟩))
    | go_in)
  go_ret
  exact ⟨rfl, HB.out⟩

set_option maxHeartbeats 1600000 in
theorem pie_pos_unfit (a : Option Addr) (len cap n : Nat) (ys : List Int) (w : World) (hn : n ≤ 63) (hl : len ≤ 1048576) (h1 : 1 ≤ len) (hz0 : ys.length = len) (hb0 : Byt ys) (hr0 : Rd w a ys) (hp : nth ys 0 ≠ 45) (h19 : len ≤ 19) (hdig : allDig ys = true) (hs : sfB false (val ys) n = false) :
    Calls Trym.prog 8 #[.slice a len cap, .int .i64 ((n : Int) + 1)] w fun e w' => e = .returned (.bool true) ∧ Below w.heap.size w w' := by
  have hd : ¬ ((n : Int) + 1 < 1) := by omega
  have hz : Hid (ys.length = len) := hz0
  have hb : Hid (Byt ys) := hb0
  have hr : Hid (Rd w a ys) := hr0
  clear hz0 hb0 hr0
  have HP : Hid (nth ys 0 ≠ 45) := hp
  have hp' : (nth ys 0 == 45) = false := by simp [hp]
  clear hp
  have HD : Hid (allDig ys = true) := hdig
  have HAc : Hid (accB ys = true) := accB_yes (by rw [hz.out]; exact h1) (by rw [hz.out]; exact h19) hdig
  have HS : Hid (sfB false (val ys) n = false) := hs
  have HA : Hid (piB false ys n = false) := (piB_sf' HAc.out).trans hs
  have hvb := val_bd19 hdig (by rw [hz.out]; exact h19)
  clear hdig hs
  have hd3 : decide ((len : Int) < 1) = false := by simp; omega
  go_enter Trym.func8, Trym.ntmps8
  go_wp2_with (first
    | (go_at_call 12; go_must (refine (clone_pos _ _ _ ys _ hz.out h1 hl hr.out).mono ?_; rintro e w1 ⟨g, rfl, HR, hcell, HB⟩))
    | (go_at_call 24; go_must (refine (zpi_no _ _ _ n ys false ys _ hn (Nat.le_refl _) hz.out hb.out HR.out (.inr ⟨rfl, rfl, .inr HP.out⟩) HA.out).mono ?_; rintro e w' ⟨rfl, rfl⟩))
    | (go_at_call 14; go_must (refine (ad_len _ _ _ ys _ true hz.out (by omega) hb.out HD.out HR.out).mono ?_; rintro e w' ⟨rfl, rfl⟩))
    | (go_at_call 15; go_must (refine (vp_len _ _ _ ys _ hz.out h1 h19 HD.out HR.out).mono ?_; rintro e w' ⟨rfl, rfl⟩))
    | (go_at_call 25; go_must (refine (sf_any false (val ys) n false _ (by omega) (by omega) hn HS.out).mono ?_; rintro e w' ⟨rfl, rfl⟩))
    | go_in)
  go_ret
  exact ⟨rfl, HB.out⟩

set_option maxHeartbeats 1600000 in
theorem pie_pos_fit (a : Option Addr) (len cap n : Nat) (ys : List Int) (w : World) (hn : n ≤ 63) (hl : len ≤ 1048576) (h1 : 1 ≤ len) (hz0 : ys.length = len) (hb0 : Byt ys) (hr0 : Rd w a ys) (hp : nth ys 0 ≠ 45) (h19 : len ≤ 19) (hdig : allDig ys = true) (hs : sfB false (val ys) n = true) :
    Calls Trym.prog 8 #[.slice a len cap, .int .i64 ((n : Int) + 1)] w fun e w' => e = .returned (.bool true) ∧ Below w.heap.size w w' := by
  have hd : ¬ ((n : Int) + 1 < 1) := by omega
  have hz : Hid (ys.length = len) := hz0
  have hb : Hid (Byt ys) := hb0
  have hr : Hid (Rd w a ys) := hr0
  clear hz0 hb0 hr0
  have HP : Hid (nth ys 0 ≠ 45) := hp
  have hp' : (nth ys 0 == 45) = false := by simp [hp]
  clear hp
  have HD : Hid (allDig ys = true) := hdig
  have HAc : Hid (accB ys = true) := accB_yes (by rw [hz.out]; exact h1) (by rw [hz.out]; exact h19) hdig
  have HS : Hid (sfB false (val ys) n = true) := hs
  have HA : Hid (piB false ys n = true) := (piB_sf' HAc.out).trans hs
  have hvb := val_bd19 hdig (by rw [hz.out]; exact h19)
  clear hdig hs
  have hd3 : decide ((len : Int) < 1) = false := by simp; omega
  have hfit : val ys ≤ 9223372036854775807 := by
    have h := HS.out
    have := pow_bd hn
    simp [sfB] at h
    omega
  go_enter Trym.func8, Trym.ntmps8
  go_wp2_with (first
    | (go_at_call 12; go_must (refine (clone_pos _ _ _ ys _ hz.out h1 hl hr.out).mono ?_; rintro e w1 ⟨g, rfl, HR, hcell, HB⟩))
    | (go_at_call 24; go_must (refine (zpi_yes _ _ _ n ys false ys (val ys) _ hn (Nat.le_refl _) hz.out hb.out HR.out (.inr ⟨rfl, rfl, .inr HP.out⟩) HA.out rfl).mono ?_; rintro e w' ⟨rfl, rfl⟩))
    | (go_at_call 14; go_must (refine (ad_len _ _ _ ys _ true hz.out (by omega) hb.out HD.out HR.out).mono ?_; rintro e w' ⟨rfl, rfl⟩))
    | (go_at_call 15; go_must (refine (vp_len _ _ _ ys _ hz.out h1 h19 HD.out HR.out).mono ?_; rintro e w' ⟨rfl, rfl⟩))
    | (go_at_call 25; go_must (refine (sf_any false (val ys) n true _ (by omega) (by omega) hn HS.out).mono ?_; rintro e w' ⟨rfl, rfl⟩))
    | go_in)
  go_ret
  exact ⟨rfl, HB.out⟩

set_option maxHeartbeats 1600000 in
theorem pie_neg_one (a : Option Addr) (len cap n : Nat) (ys : List Int) (w : World) (hn : n ≤ 63) (hl : len ≤ 1048576) (h1 : 1 ≤ len) (hz0 : ys.length = len) (hb0 : Byt ys) (hr0 : Rd w a ys) (hp : nth ys 0 = 45) (h19 : len = 1) :
    Calls Trym.prog 8 #[.slice a len cap, .int .i64 ((n : Int) + 1)] w fun e w' => e = .returned (.bool true) ∧ Below w.heap.size w w' := by
  have hd : ¬ ((n : Int) + 1 < 1) := by omega
  have hz : Hid (ys.length = len) := hz0
  have hb : Hid (Byt ys) := hb0
  have hr : Hid (Rd w a ys) := hr0
  clear hz0 hb0 hr0
  have HP : Hid (nth ys 0 = 45) := hp
  have hp' : (nth ys 0 == 45) = true := by simp [hp]
  clear hp
  have HA : Hid (piB true ys.tail n = false) := piB_no (accB_len0 (by rw [List.length_tail, hz.out]; omega))
  subst h19
  go_enter Trym.func8, Trym.ntmps8
  go_wp2_with (first
    | (go_at_call 12; go_must (refine (clone_pos _ _ _ ys _ hz.out h1 hl hr.out).mono ?_; rintro e w1 ⟨g, rfl, HR, hcell, HB⟩))
    | (go_at_call 24; go_must (refine (zpi_no _ _ _ n ys true ys.tail _ hn (Nat.le_refl _) hz.out hb.out HR.out (.inl ⟨rfl, by rw [hz.out]; exact h1, HP.out, rfl⟩) HA.out).mono ?_; rintro e w' ⟨rfl, rfl⟩))
    | go_in)
  go_ret
  exact ⟨rfl, HB.out⟩

set_option maxHeartbeats 1600000 in
theorem pie_neg_long (a : Option Addr) (len cap n : Nat) (ys : List Int) (w : World) (hn : n ≤ 63) (hl : len ≤ 1048576) (h1 : 1 ≤ len) (hz0 : ys.length = len) (hb0 : Byt ys) (hr0 : Rd w a ys) (hp : nth ys 0 = 45) (h19 : 20 < len) :
    Calls Trym.prog 8 #[.slice a len cap, .int .i64 ((n : Int) + 1)] w fun e w' => e = .returned (.bool true) ∧ Below w.heap.size w w' := by
  have hd : ¬ ((n : Int) + 1 < 1) := by omega
  have hz : Hid (ys.length = len) := hz0
  have hb : Hid (Byt ys) := hb0
  have hr : Hid (Rd w a ys) := hr0
  clear hz0 hb0 hr0
  have HP : Hid (nth ys 0 = 45) := hp
  have hp' : (nth ys 0 == 45) = true := by simp [hp]
  clear hp
  have HA : Hid (piB true ys.tail n = false) := piB_no (accB_len20 (by rw [List.length_tail, hz.out]; omega))
  have hd3 : decide (((len - 1 : Nat) : Int) < 1) = false := by simp; omega
  go_enter Trym.func8, Trym.ntmps8
  go_wp2_with (first
    | (go_at_call 12; go_must (refine (clone_pos _ _ _ ys _ hz.out h1 hl hr.out).mono ?_; rintro e w1 ⟨g, rfl, HR, hcell, HB⟩))
    | (go_at_call 24; go_must (refine (zpi_no _ _ _ n ys true ys.tail _ hn (Nat.le_refl _) hz.out hb.out HR.out (.inl ⟨rfl, by rw [hz.out]; exact h1, HP.out, rfl⟩) HA.out).mono ?_; rintro e w' ⟨rfl, rfl⟩))
    | go_in)
  go_ret
  exact ⟨rfl, HB.out⟩

set_option maxHeartbeats 1600000 in
theorem pie_neg_nodig (a : Option Addr) (len cap n : Nat) (ys : List Int) (w : World) (hn : n ≤ 63) (hl : len ≤ 1048576) (h1 : 1 ≤ len) (hz0 : ys.length = len) (hb0 : Byt ys) (hr0 : Rd w a ys) (hp : nth ys 0 = 45) (h2 : 2 ≤ len) (h19 : len ≤ 20) (hdig : allDig ys.tail = false) :
    Calls Trym.prog 8 #[.slice a len cap, .int .i64 ((n : Int) + 1)] w fun e w' => e = .returned (.bool true) ∧ Below w.heap.size w w' := by
  have hd : ¬ ((n : Int) + 1 < 1) := by omega
  have hz : Hid (ys.length = len) := hz0
  have hb : Hid (Byt ys) := hb0
  have hr : Hid (Rd w a ys) := hr0
  clear hz0 hb0 hr0
  have HP : Hid (nth ys 0 = 45) := hp
  have hp' : (nth ys 0 == 45) = true := by simp [hp]
  clear hp
  have HD : Hid (allDig ys.tail = false) := hdig
  have HA : Hid (piB true ys.tail n = false) := piB_no (accB_no hdig)
  clear hdig
  have hd3 : decide (((len - 1 : Nat) : Int) < 1) = false := by simp; omega
  go_enter Trym.func8, Trym.ntmps8
  go_wp2_with (first
    | (go_at_call 12; go_must (refine (clone_pos _ _ _ ys _ hz.out h1 hl hr.out).mono ?_; rintro e w1 ⟨g, rfl, HR, hcell, HB⟩))
    | (go_at_call 24; go_must (refine (zpi_no _ _ _ n ys true ys.tail _ hn (Nat.le_refl _) hz.out hb.out HR.out (.inl ⟨rfl, by rw [hz.out]; exact h1, HP.out, rfl⟩) HA.out).mono ?_; rintro e w' ⟨rfl, rfl⟩))
    | (go_at_call 14; go_must (refine (ad_len _ _ _ ys.tail _ false (by rw [List.length_tail, hz.out]) (by omega) (byt_tail hb.out) HD.out HR.out.tail1).mono ?_; rintro e w' ⟨rfl, rfl⟩))
    | go_in)
  go_ret
  exact ⟨rfl, HB.out⟩

set_option maxHeartbeats 1600000 in
theorem pie_neg_unfit (a : Option Addr) (len cap n : Nat) (ys : List Int) (w : World) (hn : n ≤ 63) (hl : len ≤ 1048576) (h1 : 1 ≤ len) (hz0 : ys.length = len) (hb0 : Byt ys) (hr0 : Rd w a ys) (hp : nth ys 0 = 45) (h2 : 2 ≤ len) (h19 : len ≤ 20) (hdig : allDig ys.tail = true) (hs : sfB true (val ys.tail) n = false) :
    Calls Trym.prog 8 #[.slice a len cap, .int .i64 ((n : Int) + 1)] w fun e w' => e = .returned (.bool true) ∧ Below w.heap.size w w' := by
  have hd : ¬ ((n : Int) + 1 < 1) := by omega
  have hz : Hid (ys.length = len) := hz0
  have hb : Hid (Byt ys) := hb0
  have hr : Hid (Rd w a ys) := hr0
  clear hz0 hb0 hr0
  have HP : Hid (nth ys 0 = 45) := hp
  have hp' : (nth ys 0 == 45) = true := by simp [hp]
  clear hp
  have HD : Hid (allDig ys.tail = true) := hdig
  have HAc : Hid (accB ys.tail = true) := accB_yes (by rw [List.length_tail, hz.out]; omega) (by rw [List.length_tail, hz.out]; omega) hdig
  have HS : Hid (sfB true (val ys.tail) n = false) := hs
  have HA : Hid (piB true ys.tail n = false) := (piB_sf' HAc.out).trans hs
  have hvb := val_bd19 hdig (by rw [List.length_tail, hz.out]; omega)
  clear hdig hs
  have hd3 : decide (((len - 1 : Nat) : Int) < 1) = false := by simp; omega
  go_enter Trym.func8, Trym.ntmps8
  go_wp2_with (first
    | (go_at_call 12; go_must (refine (clone_pos _ _ _ ys _ hz.out h1 hl hr.out).mono ?_; rintro e w1 ⟨g, rfl, HR, hcell, HB⟩))
    | (go_at_call 24; go_must (refine (zpi_no _ _ _ n ys true ys.tail _ hn (Nat.le_refl _) hz.out hb.out HR.out (.inl ⟨rfl, by rw [hz.out]; exact h1, HP.out, rfl⟩) HA.out).mono ?_; rintro e w' ⟨rfl, rfl⟩))
    | (go_at_call 14; go_must (refine (ad_len _ _ _ ys.tail _ true (by rw [List.length_tail, hz.out]) (by omega) (byt_tail hb.out) HD.out HR.out.tail1).mono ?_; rintro e w' ⟨rfl, rfl⟩))
    | (go_at_call 15; go_must (refine (vp_len _ _ _ ys.tail _ (by rw [List.length_tail, hz.out]) (by omega) (by omega) HD.out HR.out.tail1).mono ?_; rintro e w' ⟨rfl, rfl⟩))
    | (go_at_call 25; go_must (refine (sf_any true (val ys.tail) n false _ (by omega) (by omega) hn HS.out).mono ?_; rintro e w' ⟨rfl, rfl⟩))
    | go_in)
  go_ret
  exact ⟨rfl, HB.out⟩

set_option maxHeartbeats 1600000 in
theorem pie_neg_zero (a : Option Addr) (len cap n : Nat) (ys : List Int) (w : World) (hn : n ≤ 63) (hl : len ≤ 1048576) (h1 : 1 ≤ len) (hz0 : ys.length = len) (hb0 : Byt ys) (hr0 : Rd w a ys) (hp : nth ys 0 = 45) (h2 : 2 ≤ len) (h19 : len ≤ 20) (hdig : allDig ys.tail = true) (hs : sfB true (val ys.tail) n = true) (hm : val ys.tail = 0) :
    Calls Trym.prog 8 #[.slice a len cap, .int .i64 ((n : Int) + 1)] w fun e w' => e = .returned (.bool true) ∧ Below w.heap.size w w' := by
  have hd : ¬ ((n : Int) + 1 < 1) := by omega
  have hz : Hid (ys.length = len) := hz0
  have hb : Hid (Byt ys) := hb0
  have hr : Hid (Rd w a ys) := hr0
  clear hz0 hb0 hr0
  have HP : Hid (nth ys 0 = 45) := hp
  have hp' : (nth ys 0 == 45) = true := by simp [hp]
  clear hp
  have HD : Hid (allDig ys.tail = true) := hdig
  have HAc : Hid (accB ys.tail = true) := accB_yes (by rw [List.length_tail, hz.out]; omega) (by rw [List.length_tail, hz.out]; omega) hdig
  have HS : Hid (sfB true (val ys.tail) n = true) := hs
  have HA : Hid (piB true ys.tail n = true) := (piB_sf' HAc.out).trans hs
  have hvb := val_bd19 hdig (by rw [List.length_tail, hz.out]; omega)
  clear hdig hs
  have hd3 : decide (((len - 1 : Nat) : Int) < 1) = false := by simp; omega
  have HM : Hid (val ys.tail = 0) := hm
  have hm' : (val ys.tail == 0) = true := by simp [hm]
  clear hm
  go_enter Trym.func8, Trym.ntmps8
  go_wp2_with (first
    | (go_at_call 12; go_must (refine (clone_pos _ _ _ ys _ hz.out h1 hl hr.out).mono ?_; rintro e w1 ⟨g, rfl, HR, hcell, HB⟩))
    | (go_at_call 24; go_must (refine (zpi_yes _ _ _ n ys true ys.tail 0 _ hn (Nat.le_refl _) hz.out hb.out HR.out (.inl ⟨rfl, by rw [hz.out]; exact h1, HP.out, rfl⟩) HA.out (by rw [HM.out]; rfl)).mono ?_; rintro e w' ⟨rfl, rfl⟩))
    | (go_at_call 14; go_must (refine (ad_len _ _ _ ys.tail _ true (by rw [List.length_tail, hz.out]) (by omega) (byt_tail hb.out) HD.out HR.out.tail1).mono ?_; rintro e w' ⟨rfl, rfl⟩))
    | (go_at_call 15; go_must (refine (vp_len _ _ _ ys.tail _ (by rw [List.length_tail, hz.out]) (by omega) (by omega) HD.out HR.out.tail1).mono ?_; rintro e w' ⟨rfl, rfl⟩))
    | (go_at_call 25; go_must (refine (sf_any true (val ys.tail) n true _ (by omega) (by omega) hn HS.out).mono ?_; rintro e w' ⟨rfl, rfl⟩))
    | go_in)
  go_ret
  exact ⟨rfl, HB.out⟩

set_option maxHeartbeats 1600000 in
theorem pie_neg_fit (a : Option Addr) (len cap n : Nat) (ys : List Int) (w : World) (hn : n ≤ 63) (hl : len ≤ 1048576) (h1 : 1 ≤ len) (hz0 : ys.length = len) (hb0 : Byt ys) (hr0 : Rd w a ys) (hp : nth ys 0 = 45) (h2 : 2 ≤ len) (h19 : len ≤ 20) (hdig : allDig ys.tail = true) (hs : sfB true (val ys.tail) n = true) (hm : val ys.tail ≠ 0) :
    Calls Trym.prog 8 #[.slice a len cap, .int .i64 ((n : Int) + 1)] w fun e w' => e = .returned (.bool true) ∧ Below w.heap.size w w' := by
  have hd : ¬ ((n : Int) + 1 < 1) := by omega
  have hz : Hid (ys.length = len) := hz0
  have hb : Hid (Byt ys) := hb0
  have hr : Hid (Rd w a ys) := hr0
  clear hz0 hb0 hr0
  have HP : Hid (nth ys 0 = 45) := hp
  have hp' : (nth ys 0 == 45) = true := by simp [hp]
  clear hp
  have HD : Hid (allDig ys.tail = true) := hdig
  have HAc : Hid (accB ys.tail = true) := accB_yes (by rw [List.length_tail, hz.out]; omega) (by rw [List.length_tail, hz.out]; omega) hdig
  have HS : Hid (sfB true (val ys.tail) n = true) := hs
  have HA : Hid (piB true ys.tail n = true) := (piB_sf' HAc.out).trans hs
  have hvb := val_bd19 hdig (by rw [List.length_tail, hz.out]; omega)
  clear hdig hs
  have hd3 : decide (((len - 1 : Nat) : Int) < 1) = false := by simp; omega
  have hm' : (val ys.tail == 0) = false := by simp [hm]
  have hm1 : 1 ≤ val ys.tail := by omega
  clear hm
  have hfit : val ys.tail ≤ 9223372036854775808 := by
    have h := HS.out
    have := pow_bd hn
    simp [sfB] at h
    omega
  go_enter Trym.func8, Trym.ntmps8
  go_wp2_with (first
    | (go_at_call 12; go_must (refine (clone_pos _ _ _ ys _ hz.out h1 hl hr.out).mono ?_; rintro e w1 ⟨g, rfl, HR, hcell, HB⟩))
    | (go_at_call 24; go_must (refine (zpi_yes _ _ _ n ys true ys.tail (-(val ys.tail - 1) - 1) _ hn (Nat.le_refl _) hz.out hb.out HR.out (.inl ⟨rfl, by rw [hz.out]; exact h1, HP.out, rfl⟩) HA.out (by show -(_ : Int) = _; omega)).mono ?_; rintro e w' ⟨rfl, rfl⟩))
    | (go_at_call 14; go_must (refine (ad_len _ _ _ ys.tail _ true (by rw [List.length_tail, hz.out]) (by omega) (byt_tail hb.out) HD.out HR.out.tail1).mono ?_; rintro e w' ⟨rfl, rfl⟩))
    | (go_at_call 15; go_must (refine (vp_len _ _ _ ys.tail _ (by rw [List.length_tail, hz.out]) (by omega) (by omega) HD.out HR.out.tail1).mono ?_; rintro e w' ⟨rfl, rfl⟩))
    | (go_at_call 25; go_must (refine (sf_any true (val ys.tail) n true _ (by omega) (by omega) hn HS.out).mono ?_; rintro e w' ⟨rfl, rfl⟩))
    | go_in)
  go_ret
  exact ⟨rfl, HB.out⟩

theorem pie_any (a : Option Addr) (len cap : Nat) (z : Int) (ys : List Int) (w : World) (hz : ys.length = len) (hb : Byt ys) (hr : Rd w a ys) (hna : a = none → len = 0 ∧ cap = 0) (hm : len ≤ 9223372036854775807) :
    Calls Trym.prog 8 #[.slice a len cap, .int .i64 z] w fun e w' => e = .returned (.bool true) ∧ Below w.heap.size w w' := by
  by_cases hl : 1048576 < len
  · exact (pie_big a len cap z w hl hm).mono fun e w' ⟨he, hw⟩ => ⟨he, hw ▸ Below.refl _ _⟩
  · by_cases hbs : z < 1 ∨ 64 < z
    · exact (pie_out a len cap z w (by omega) hbs).mono fun e w' ⟨he, hw⟩ => ⟨he, hw ▸ Below.refl _ _⟩
    · obtain ⟨n, rfl⟩ : ∃ n : Nat, z = (n : Int) + 1 := ⟨(z - 1).toNat, by omega⟩
      have hn : n ≤ 63 := by omega
      by_cases h0 : len = 0
      · subst h0
        exact pie_empty a cap n w hn hna
      · have h1 : 1 ≤ len := by omega
        have hl' : len ≤ 1048576 := by omega
        by_cases hp : nth ys 0 = 45
        · by_cases e1 : len = 1
          · exact pie_neg_one a len cap n ys w hn hl' h1 hz hb hr hp e1
          · by_cases e20 : 20 < len
            · exact pie_neg_long a len cap n ys w hn hl' h1 hz hb hr hp e20
            · cases hd : allDig ys.tail with
              | false => exact pie_neg_nodig a len cap n ys w hn hl' h1 hz hb hr hp (by omega) (by omega) hd
              | true =>
                cases hs : sfB true (val ys.tail) n with
                | false => exact pie_neg_unfit a len cap n ys w hn hl' h1 hz hb hr hp (by omega) (by omega) hd hs
                | true =>
                  by_cases hm0 : val ys.tail = 0
                  · exact pie_neg_zero a len cap n ys w hn hl' h1 hz hb hr hp (by omega) (by omega) hd hs hm0
                  · exact pie_neg_fit a len cap n ys w hn hl' h1 hz hb hr hp (by omega) (by omega) hd hs hm0
        · by_cases e19 : 19 < len
          · exact pie_pos_long a len cap n ys w hn hl' h1 hz hb hr hp e19
          · cases hd : allDig ys with
            | false => exact pie_pos_nodig a len cap n ys w hn hl' h1 hz hb hr hp (by omega) hd
            | true =>
              cases hs : sfB false (val ys) n with
              | false => exact pie_pos_unfit a len cap n ys w hn hl' h1 hz hb hr hp (by omega) hd hs
              | true => exact pie_pos_fit a len cap n ys w hn hl' h1 hz hb hr hp (by omega) hd hs

end Go.Proofs.Qxb6600311aMods
