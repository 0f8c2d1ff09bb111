/-
  THE PLAIN MATHEMATICS OF HEX DIGITS, no Go in sight.
-/
import Derived.Test.Qxb6600311aModsPlain
namespace Go.Proofs.Qxb6600311aMods.Plain

/-- The value of a hex digit of either case, or -1. -/
def hv (c : Int) : Int := if 48 ≤ c ∧ c ≤ 57 then c - 48 else if 97 ≤ c ∧ c ≤ 102 then c - 87 else if 65 ≤ c ∧ c ≤ 70 then c - 55 else -1
/-- The value of a list of hex digits. -/
def hx (l : List Int) : Int := l.foldl (fun n c => n * 16 + hv c) 0
def hexOk (l : List Int) : Bool := l.all fun c => decide (0 ≤ hv c)
/-- What hex4 answers for a slice that holds l. -/
def h4 (l : List Int) : Int := if hexOk (l.take 4) = true then hx (l.take 4) else -1
def p16 : Nat → Int
  | 0 => 1
  | k + 1 => 16 * p16 k

theorem hv_dig {c : Int} (h1 : 48 ≤ c) (h2 : c ≤ 57) : hv c = c - 48 := by unfold hv; rw [if_pos ⟨h1, h2⟩]
theorem hv_low {c : Int} (h1 : 97 ≤ c) (h2 : c ≤ 102) : hv c = c - 87 := by unfold hv; rw [if_neg (by omega), if_pos ⟨h1, h2⟩]
theorem hv_upp {c : Int} (h1 : 65 ≤ c) (h2 : c ≤ 70) : hv c = c - 55 := by unfold hv; rw [if_neg (by omega), if_neg (by omega), if_pos ⟨h1, h2⟩]
theorem hv_no {c : Int} (h : c < 48 ∨ (57 < c ∧ c < 65) ∨ (70 < c ∧ c < 97) ∨ 102 < c) : hv c = -1 := by unfold hv; rw [if_neg (by omega), if_neg (by omega), if_neg (by omega)]
theorem hv_bd (c : Int) : -1 ≤ hv c ∧ hv c ≤ 15 := by unfold hv; split <;> (try split) <;> (try split) <;> omega

theorem hx_take_succ (l : List Int) (k : Nat) (h : k < l.length) : hx (l.take (k + 1)) = hx (l.take k) * 16 + hv (nth l k) := by
  rw [take_snoc' l k h, hx, List.foldl_append]; rfl
theorem hexOk_take_succ (l : List Int) (k : Nat) (h : k < l.length) : hexOk (l.take (k + 1)) = (hexOk (l.take k) && decide (0 ≤ hv (nth l k))) := by
  rw [take_snoc' l k h, hexOk, hexOk, List.all_append]; simp
theorem hexOk_no {l : List Int} {k : Nat} (hk : k < 4) (hl : k < l.length) (h : hv (nth l k) < 0) : h4 l = -1 := by
  have e : hexOk (l.take 4) = false := by
    have hk4 : k < (l.take 4).length := by simp; omega
    have hm : nth l k ∈ l.take 4 := by
      have e1 : (l.take 4)[k] = nth l k := by rw [nth_lt hl]; simp
      rw [← e1]; exact List.getElem_mem hk4
    cases h' : hexOk (l.take 4) with
    | false => rfl
    | true =>
      have := List.all_eq_true.1 h' _ hm
      simp at this
      omega
  rw [h4, e]; simp
theorem h4_yes {l : List Int} (h : hexOk (l.take 4) = true) : h4 l = hx (l.take 4) := by rw [h4, if_pos h]

theorem p16_pos (k : Nat) : 1 ≤ p16 k := by
  induction k with
  | zero => decide
  | succ k ih => simp only [p16]; omega
theorem hx_bd (l : List Int) (h : hexOk l = true) : ∀ n : Int, 0 ≤ n → n * p16 l.length ≤ l.foldl (fun n c => n * 16 + hv c) n ∧ l.foldl (fun n c => n * 16 + hv c) n < (n + 1) * p16 l.length := by
  induction l with
  | nil => intro n _; simp [p16]; omega
  | cons c l ih =>
    intro n hn
    simp only [hexOk, List.all_cons, Bool.and_eq_true, decide_eq_true_eq] at h
    have hb := hv_bd c
    have := ih h.2 (n * 16 + hv c) (by omega)
    have hp := p16_pos l.length
    simp only [List.foldl_cons, List.length_cons, p16]
    have e1 : n * (16 * p16 l.length) ≤ (n * 16 + hv c) * p16 l.length := by
      rw [← Int.mul_assoc]
      exact Int.mul_le_mul_of_nonneg_right (by omega) (by omega)
    have e2 : (n * 16 + hv c + 1) * p16 l.length ≤ (n + 1) * (16 * p16 l.length) := by
      rw [← Int.mul_assoc]
      exact Int.mul_le_mul_of_nonneg_right (by omega) (by omega)
    omega
theorem hx_bd' {l : List Int} (h : hexOk l = true) : 0 ≤ hx l ∧ hx l < p16 l.length := by
  have := hx_bd l h 0 (by omega)
  unfold hx
  omega
theorem p16_mono {a b : Nat} (h : a ≤ b) : p16 a ≤ p16 b := by
  induction b with
  | zero => have : a = 0 := by omega
            subst this; exact Int.le_refl _
  | succ b ih =>
    by_cases e : a = b + 1
    · subst e; exact Int.le_refl _
    · have := ih (by omega)
      have hp := p16_pos b
      simp only [p16]; omega
theorem p16_3 : p16 3 = 4096 := by decide
theorem hx_bd3 {l : List Int} (h : hexOk l = true) (hl : l.length ≤ 3) : 0 ≤ hx l ∧ hx l < 4096 := by
  have := hx_bd' h
  have := p16_mono hl
  rw [p16_3] at this
  omega

end Go.Proofs.Qxb6600311aMods.Plain
