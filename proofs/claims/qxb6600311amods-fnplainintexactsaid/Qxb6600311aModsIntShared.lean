/-
  THE WALKS OF ZZplainInt AND otlpB1SignedFits, in the form that the laws' walks take them.
-/
import Derived.Test.Qxb6600311aModsInt
namespace Go.Proofs.Qxb6600311aMods
open Go.RowKit
open Plain

/-- How a text is read: 'neg': it opens with a minus sign; 'ds': what stands behind it. -/
def Sp (zs : List Int) (neg : Bool) (ds : List Int) : Prop :=
  (neg = true ∧ 1 ≤ zs.length ∧ nth zs 0 = 45 ∧ ds = zs.tail) ∨ (neg = false ∧ ds = zs ∧ (zs.length = 0 ∨ nth zs 0 ≠ 45))

theorem pi_any (a : Option Addr) (len cap n : Nat) (zs : List Int) (neg : Bool) (ds : List Int) (w : World) (hn : n ≤ 63) (hlc : len ≤ cap) (hz : zs.length = len) (hb : Byt zs) (hr : Rd w a zs) (hs : Sp zs neg ds) :
    Calls Trym.prog 29 #[.slice a len cap, .int .i64 ((n : Int) + 1)] w fun e w' => e = .returned (.tuple #[.int .i64 (piN neg ds n), .bool (piB neg ds n)]) ∧ w' = w := by
  rcases hs with ⟨rfl, h1, h2, rfl⟩ | ⟨rfl, rfl, h⟩
  · obtain ⟨b, off, rfl, _⟩ := hr (by omega)
    exact pi_neg b off len cap n zs w hn (by omega) hlc hz hb hr (by simp [h2])
  · by_cases h0 : ds.length = 0
    · have e : ds = [] := List.eq_nil_of_length_eq_zero h0
      subst e
      have e2 : piB false [] n = false := by simp [piB, accB]
      rw [piN_no e2, e2, ← hz]
      exact pi_empty a cap n w hn
    · obtain ⟨b, off, rfl, _⟩ := hr (by omega)
      refine pi_pos b off len cap n ds w hn (by omega) hz hb hr ?_
      rcases h with h | h
      · omega
      · simp [h]

theorem zpi_any (a : Option Addr) (len cap n : Nat) (zs : List Int) (neg : Bool) (ds : List Int) (w : World) (hn : n ≤ 63) (hlc : len ≤ cap) (hz : zs.length = len) (hb : Byt zs) (hr : Rd w a zs) (hs : Sp zs neg ds) :
    Calls Trym.prog 24 #[.slice a len cap, .int .i64 ((n : Int) + 1)] w fun e w' => e = .returned (.tuple #[.int .i64 (piN neg ds n), .bool (piB neg ds n)]) ∧ w' = w := by
  have H' : Hid (Calls Trym.prog 29 #[.slice a len cap, .int .i64 ((n : Int) + 1)] w fun e w' => e = .returned (.tuple #[.int .i64 (piN neg ds n), .bool (piB neg ds n)]) ∧ w' = w) := pi_any a len cap n zs neg ds w hn hlc hz hb hr hs
  clear hz hb hr hs
  go_enter Trym.func24, Trym.ntmps24
  go_wp2_with (go_at_call 29; refine H'.out.mono ?_; rintro e w' ⟨rfl, rfl⟩)
  go_ret2
  exact ⟨rfl, rfl⟩

theorem zpi_no (a : Option Addr) (len cap n : Nat) (zs : List Int) (neg : Bool) (ds : List Int) (w : World) (hn : n ≤ 63) (hlc : len ≤ cap) (hz : zs.length = len) (hb : Byt zs) (hr : Rd w a zs) (hs : Sp zs neg ds) (h : piB neg ds n = false) :
    Calls Trym.prog 24 #[.slice a len cap, .int .i64 ((n : Int) + 1)] w fun e w' => e = .returned (.tuple #[.int .i64 0, .bool false]) ∧ w' = w := by
  have := zpi_any a len cap n zs neg ds w hn hlc hz hb hr hs
  rw [piN_no h, h] at this
  exact this
theorem zpi_yes (a : Option Addr) (len cap n : Nat) (zs : List Int) (neg : Bool) (ds : List Int) (v : Int) (w : World) (hn : n ≤ 63) (hlc : len ≤ cap) (hz : zs.length = len) (hb : Byt zs) (hr : Rd w a zs) (hs : Sp zs neg ds) (h : piB neg ds n = true) (hv : (if neg then - val ds else val ds) = v) :
    Calls Trym.prog 24 #[.slice a len cap, .int .i64 ((n : Int) + 1)] w fun e w' => e = .returned (.tuple #[.int .i64 v, .bool true]) ∧ w' = w := by
  have := zpi_any a len cap n zs neg ds w hn hlc hz hb hr hs
  rw [piN, if_pos h, h, hv] at this
  exact this

/-! ### otlpB1SignedFits -/
def sfB (neg : Bool) (m : Int) (n : Nat) : Bool := if neg then decide (m ≤ (2 : Int) ^ n) else decide (m < (2 : Int) ^ n)

theorem div_zero {m p : Int} (h0 : 0 ≤ m) (hp : 1 ≤ p) : (m / p == 0) = decide (m < p) := by
  by_cases h : m < p
  · rw [Int.ediv_eq_zero_of_lt h0 h]; simp [h]
  · have h1 : 1 ≤ m / p := by
      have : p / p ≤ m / p := Int.ediv_le_ediv (by omega) (by omega)
      rw [Int.ediv_self (by omega)] at this
      exact this
    have h2 : ¬ m / p = 0 := by omega
    simp [h, h2]

theorem sf_any (neg : Bool) (m : Int) (n : Nat) (v : Bool) (w : World) (h0 : 0 ≤ m) (h1 : m ≤ 18446744073709551615) (hn : n ≤ 63) (h : sfB neg m n = v) :
    Calls Trym.prog 25 #[.bool neg, .int .u64 m, .int .i64 ((n : Int) + 1)] w fun e w' => e = .returned (.bool v) ∧ w' = w := by
  have HP : Hid (1 ≤ (2 : Int) ^ n ∧ (2 : Int) ^ n ≤ 9223372036854775808) := pow_bd hn
  have HS : Hid (sfB neg m n = v) := h
  clear h
  cases neg with
  | false =>
    go_enter Trym.func25, Trym.ntmps25
    go_wp2
    go_ret
    refine ⟨ret_bool ?_, rfl⟩
    rw [← HS.out, div_zero h0 HP.out.1]; rfl
  | true =>
    by_cases hm : m = 0
    · have hm' : (m == 0) = true := by simp [hm]
      have HM : Hid (m = 0) := hm
      clear hm
      go_enter Trym.func25, Trym.ntmps25
      go_wp2
      go_ret
      refine ⟨ret_bool ?_, rfl⟩
      rw [← HS.out, sfB, HM.out]
      have := HP.out
      simp; omega
    · have hm' : (m == 0) = false := by simp [hm]
      have hm1 : 1 ≤ m := by omega
      clear hm
      go_enter Trym.func25, Trym.ntmps25
      go_wp2
      go_ret
      refine ⟨ret_bool ?_, rfl⟩
      rw [← HS.out, div_zero (by omega) HP.out.1, sfB]
      simp only [if_true, decide_eq_decide]
      omega

end Go.Proofs.Qxb6600311aMods
