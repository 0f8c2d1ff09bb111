/-
  THE WALKS OF plainInt, ZZplainInt, otlpB1SignedFits. The bit size is written n + 1, n from 0 to 63.
-/
import Derived.Test.Qxb6600311aModsShared
namespace Go.Proofs.Qxb6600311aMods
open Go.RowKit
open Plain

def piB (neg : Bool) (ds : List Int) (n : Nat) : Bool := accB ds && decide (val ds ≤ if neg then (2 : Int) ^ n else (2 : Int) ^ n - 1)
def piN (neg : Bool) (ds : List Int) (n : Nat) : Int := if piB neg ds n = true then (if neg then - val ds else val ds) else 0

theorem pow_bd {n : Nat} (h : n ≤ 63) : (1 : Int) ≤ (2 : Int) ^ n ∧ (2 : Int) ^ n ≤ 9223372036854775808 := by
  have h1 : 2 ^ n ≤ 2 ^ 63 := Nat.pow_le_pow_right (by omega) h
  have h2 : 0 < 2 ^ n := Nat.pow_pos (by omega)
  have e : ((2 ^ n : Nat) : Int) = (2 : Int) ^ n := by simp
  rw [← e]
  omega

theorem ret_pi {n m : Int} {b c : Bool} (h : n = m) (h' : b = c) : Ending.returned (.tuple #[.int .i64 n, .bool b]) = .returned (.tuple #[.int .i64 m, .bool c]) := by rw [h, h']

theorem piB_no {neg : Bool} {ds : List Int} {n : Nat} (h : accB ds = false) : piB neg ds n = false := by simp [piB, h]
theorem piN_no {neg : Bool} {ds : List Int} {n : Nat} (h : piB neg ds n = false) : piN neg ds n = 0 := by simp [piN, h]

theorem pd_no (a : Option Addr) (len cap : Nat) (ys : List Int) (w : World) (hz : ys.length = len) (hb : Byt ys) (h : accB ys = false) (hr : Rd w a ys) :
    Calls Trym.prog 27 #[.slice a len cap] w fun e w' => e = .returned (.tuple #[.int .u64 0, .bool false]) ∧ w' = w := by
  subst hz
  have := pd_any a cap ys w hb hr
  rw [pdN_no h, h] at this
  exact this
theorem pd_yes (a : Option Addr) (len cap : Nat) (ys : List Int) (w : World) (hz : ys.length = len) (hb : Byt ys) (h : accB ys = true) (hr : Rd w a ys) :
    Calls Trym.prog 27 #[.slice a len cap] w fun e w' => e = .returned (.tuple #[.int .u64 (val ys), .bool true]) ∧ w' = w := by
  subst hz
  have := pd_any a cap ys w hb hr
  rw [pdN_yes h, h] at this
  exact this

/-- The row behind its first element. -/
theorem Rd.tail {w : World} {b off cap : Nat} {zs : List Int} (h : Rd w (some ⟨b, off, none⟩) zs) (hc : zs.length ≤ cap) : Rd w (if cap = 1 then some ⟨b, off, none⟩ else some ⟨b, off + 1, none⟩) zs.tail := by
  intro h0
  rw [List.length_tail] at h0
  rw [if_neg (by omega)]
  refine ⟨b, off + 1, rfl, fun k hk => ?_⟩
  rw [List.length_tail] at hk
  obtain ⟨b', off', e, hcell⟩ := h (by omega)
  cases e
  have := hcell (k + 1) (by omega)
  rw [show off + 1 + k = off + (k + 1) by omega, this]
  have e : nth zs.tail k = nth zs (k + 1) := by
    cases zs <;> simp [nth, List.getD]
  rw [e]
theorem byt_tail {zs : List Int} (h : Byt zs) : Byt zs.tail := by
  intro k
  have e : nth zs.tail k = nth zs (k + 1) := by
    cases zs <;> simp [nth, List.getD]
  rw [e]
  exact h (k + 1)

/-! ### without a minus sign -/
set_option maxHeartbeats 800000 in
theorem pi_empty (a : Option Addr) (cap n : Nat) (w : World) (hn : n ≤ 63) :
    Calls Trym.prog 29 #[.slice a 0 cap, .int .i64 ((n : Int) + 1)] w fun e w' => e = .returned (.tuple #[.int .i64 0, .bool false]) ∧ w' = w := by
  have hp := pow_bd hn
  go_enter Trym.func29, Trym.ntmps29
  go_wp2_with (go_at_call 27; go_must (refine (pd_no _ _ _ [] _ rfl (fun k => by simp [nth]) rfl (fun h => by simp at h)).mono ?_; rintro e w' ⟨rfl, rfl⟩))
  go_ret2
  exact ⟨rfl, rfl⟩

set_option maxHeartbeats 800000 in
theorem pi_pos (b off len cap n : Nat) (zs : List Int) (w : World) (hn : n ≤ 63) (hl1 : 1 ≤ len) (hz0 : zs.length = len) (hb0 : Byt zs) (hr0 : Rd w (some ⟨b, off, none⟩) zs) (h45 : (nth zs 0 == 45) = false) :
    Calls Trym.prog 29 #[.slice (some ⟨b, off, none⟩) len cap, .int .i64 ((n : Int) + 1)] w fun e w' => e = .returned (.tuple #[.int .i64 (piN false zs n), .bool (piB false zs n)]) ∧ w' = w := by
  have hp := pow_bd hn
  have hcell : w.cell? ⟨b, off, none⟩ = some (.int .u8 (nth zs 0)) := by
    obtain ⟨b', off', e, hc⟩ := hr0 (by omega)
    cases e
    exact hc 0 (by omega)
  have hz : Hid (zs.length = len) := hz0
  have hb : Hid (Byt zs) := hb0
  have hr : Hid (Rd w (some ⟨b, off, none⟩) zs) := hr0
  clear hz0 hb0 hr0
  by_cases hacc : accB zs = true
  · have HA : Hid (accB zs = true) := hacc
    have hvb : 0 ≤ val zs ∧ val zs < 10000000000000000000 := by
      simp [accB] at hacc
      exact val_bd19 hacc.2 hacc.1.2
    clear hacc
    by_cases hle : val zs ≤ (2 : Int) ^ n - 1
    · have HP : Hid (piB false zs n = true) := by show _ = _; simp [piB, HA.out]; omega
      go_enter Trym.func29, Trym.ntmps29
      go_wp2_with (go_at_call 27; go_must (refine (pd_yes _ _ _ zs _ hz.out hb.out HA.out hr.out).mono ?_; rintro e w' ⟨rfl, rfl⟩))
      go_ret2
      exact ⟨ret_pi (by rw [piN, if_pos HP.out]; rfl) HP.out.symm, rfl⟩
    · have HP : Hid (piB false zs n = false) := by show _ = _; simp [piB, HA.out]; omega
      go_enter Trym.func29, Trym.ntmps29
      go_wp2_with (go_at_call 27; go_must (refine (pd_yes _ _ _ zs _ hz.out hb.out HA.out hr.out).mono ?_; rintro e w' ⟨rfl, rfl⟩))
      go_ret2
      exact ⟨ret_pi (piN_no HP.out).symm HP.out.symm, rfl⟩
  · have HA : Hid (accB zs = false) := (by simpa using hacc : accB zs = false)
    have HP : Hid (piB false zs n = false) := piB_no HA.out
    clear hacc
    go_enter Trym.func29, Trym.ntmps29
    go_wp2_with (go_at_call 27; go_must (refine (pd_no _ _ _ zs _ hz.out hb.out HA.out hr.out).mono ?_; rintro e w' ⟨rfl, rfl⟩))
    go_ret2
    exact ⟨ret_pi (piN_no HP.out).symm HP.out.symm, rfl⟩

/-! ### behind a minus sign -/
theorem neg_big {x : Int} (h1 : 9223372036854775807 < x) (h2 : x ≤ 9223372036854775808) : wrap64 (-(wrap64 x)) = -x := by
  unfold wrap64
  omega

set_option maxHeartbeats 1600000 in
theorem pi_neg (b off len cap n : Nat) (zs : List Int) (w : World) (hn : n ≤ 63) (hl1 : 1 ≤ len) (hlc : len ≤ cap) (hz0 : zs.length = len) (hb0 : Byt zs) (hr0 : Rd w (some ⟨b, off, none⟩) zs) (h45 : (nth zs 0 == 45) = true) :
    Calls Trym.prog 29 #[.slice (some ⟨b, off, none⟩) len cap, .int .i64 ((n : Int) + 1)] w fun e w' => e = .returned (.tuple #[.int .i64 (piN true zs.tail n), .bool (piB true zs.tail n)]) ∧ w' = w := by
  have hp := pow_bd hn
  have hcell : w.cell? ⟨b, off, none⟩ = some (.int .u8 (nth zs 0)) := by
    obtain ⟨b', off', e, hc⟩ := hr0 (by omega)
    cases e
    exact hc 0 (by omega)
  have hz : Hid (zs.tail.length = len - 1) := by show _ = _; rw [List.length_tail, hz0]
  have hb : Hid (Byt zs.tail) := byt_tail hb0
  have hr : Hid (Rd w (if cap = 1 then some ⟨b, off, none⟩ else some ⟨b, off + 1, none⟩) zs.tail) := hr0.tail (by omega)
  clear hz0 hb0 hr0
  generalize zs.tail = ds at *
  by_cases hacc : accB ds = true
  · have HA : Hid (accB ds = true) := hacc
    have hvb : 0 ≤ val ds ∧ val ds < 10000000000000000000 := by
      simp [accB] at hacc
      exact val_bd19 hacc.2 hacc.1.2
    clear hacc
    by_cases hle : val ds ≤ (2 : Int) ^ n
    · have HP : Hid (piB true ds n = true) := by show _ = _; simp [piB, HA.out]; omega
      by_cases hbig : val ds ≤ 9223372036854775807
      · go_enter Trym.func29, Trym.ntmps29
        go_wp2_with (go_at_call 27; go_must (refine (pd_yes _ _ _ ds _ hz.out hb.out HA.out hr.out).mono ?_; rintro e w' ⟨rfl, rfl⟩))
        all_goals go_ret2
        all_goals exact ⟨ret_pi (by rw [piN, if_pos HP.out]; rfl) HP.out.symm, rfl⟩
      · have hbig' : 9223372036854775807 < val ds := by omega
        have HW : Hid (wrap64 (-(wrap64 (val ds))) = - val ds) := neg_big hbig' (by omega)
        go_enter Trym.func29, Trym.ntmps29
        go_wp2_with (go_at_call 27; go_must (refine (pd_yes _ _ _ ds _ hz.out hb.out HA.out hr.out).mono ?_; rintro e w' ⟨rfl, rfl⟩))
        all_goals go_ret2
        all_goals exact ⟨ret_pi (by rw [piN, if_pos HP.out]; exact HW.out) HP.out.symm, rfl⟩
    · have HP : Hid (piB true ds n = false) := by show _ = _; simp [piB, HA.out]; omega
      go_enter Trym.func29, Trym.ntmps29
      go_wp2_with (go_at_call 27; go_must (refine (pd_yes _ _ _ ds _ hz.out hb.out HA.out hr.out).mono ?_; rintro e w' ⟨rfl, rfl⟩))
      all_goals go_ret2
      all_goals exact ⟨ret_pi (piN_no HP.out).symm HP.out.symm, rfl⟩
  · have HA : Hid (accB ds = false) := (by simpa using hacc : accB ds = false)
    have HP : Hid (piB true ds n = false) := piB_no HA.out
    clear hacc
    go_enter Trym.func29, Trym.ntmps29
    go_wp2_with (go_at_call 27; go_must (refine (pd_no _ _ _ ds _ hz.out hb.out HA.out hr.out).mono ?_; rintro e w' ⟨rfl, rfl⟩))
    all_goals go_ret2
    all_goals exact ⟨ret_pi (piN_no HP.out).symm HP.out.symm, rfl⟩

end Go.Proofs.Qxb6600311aMods
