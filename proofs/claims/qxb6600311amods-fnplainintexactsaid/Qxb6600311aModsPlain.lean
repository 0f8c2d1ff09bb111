/-
  THE PLAIN MATHEMATICS, no Go in sight: the decimal value of a list of bytes, by Horner and by places; the lexicographic order; hex digits.
-/
namespace Go.Proofs.Qxb6600311aMods.Plain

def p10 : Nat → Int
  | 0 => 1
  | k + 1 => 10 * p10 k

/-- The k-th element (a name of its own, so that a walk leaves it standing). -/
def nth (l : List Int) (k : Nat) : Int := l.getD k 0
theorem nth_lt {l : List Int} {k : Nat} (h : k < l.length) : nth l k = l[k] := by simp [nth, List.getD, List.getElem?_eq_getElem h]

def val (l : List Int) : Int := l.foldl (fun n c => n * 10 + (c - 48)) 0
def isDig (c : Int) : Bool := decide (48 ≤ c) && decide (c ≤ 57)
def allDig (l : List Int) : Bool := l.all isDig
def accB (l : List Int) : Bool := decide (1 ≤ l.length) && decide (l.length ≤ 19) && allDig l
def pdN (l : List Int) : Int := if accB l = true then val l else 0

theorem isDig_iff (c : Int) : isDig c = true ↔ 48 ≤ c ∧ c ≤ 57 := by simp [isDig]
theorem isDig_not (c : Int) : isDig c = false ↔ c < 48 ∨ 57 < c := by
  have h := isDig_iff c
  cases e : isDig c with
  | true => simp [e] at h; simp; omega
  | false => simp [e] at h; simp; omega

theorem p10_pos (k : Nat) : 1 ≤ p10 k := by
  induction k with
  | zero => decide
  | succ k ih => simp only [p10]; omega

theorem p10_mono {a b : Nat} (h : a ≤ b) : p10 a ≤ p10 b := by
  induction b with
  | zero => have : a = 0 := by omega
            subst this; exact Int.le_refl _
  | succ b ih =>
    by_cases e : a = b + 1
    · subst e; exact Int.le_refl _
    · have := ih (by omega)
      have hp := p10_pos b
      simp only [p10]; omega

theorem p10_18 : p10 18 = 1000000000000000000 := by decide
theorem p10_19 : p10 19 = 10000000000000000000 := by decide
theorem p10_20 : p10 20 = 100000000000000000000 := by decide

theorem p10_le19 {k : Nat} (h : k ≤ 19) : 1 ≤ p10 k ∧ p10 k ≤ 10000000000000000000 := by
  have := p10_mono h
  rw [p10_19] at this
  exact ⟨p10_pos k, this⟩

theorem foldl_from (l : List Int) : ∀ n : Int, l.foldl (fun n c => n * 10 + (c - 48)) n = n * p10 l.length + val l := by
  induction l with
  | nil => intro n; simp [val, p10]
  | cons c l ih =>
    intro n
    have h1 := ih (n * 10 + (c - 48))
    have h2 := ih (c - 48)
    simp only [List.foldl_cons, val, List.length_cons, p10] at *
    have e0 : (0 : Int) * 10 + (c - 48) = c - 48 := by omega
    rw [h1, e0, h2]
    rw [Int.add_mul, Int.mul_assoc n 10, Int.add_assoc]

theorem val_nil : val [] = 0 := rfl
theorem val_cons (c : Int) (l : List Int) : val (c :: l) = (c - 48) * p10 l.length + val l := by
  have h := foldl_from l (c - 48)
  have e0 : (0 : Int) * 10 + (c - 48) = c - 48 := by omega
  rw [← h]
  simp only [val, List.foldl_cons, e0]
theorem val_snoc (l : List Int) (c : Int) : val (l ++ [c]) = val l * 10 + (c - 48) := by
  simp [val, List.foldl_append]
theorem val_append (a b : List Int) : val (a ++ b) = val a * p10 b.length + val b := by
  rw [val, List.foldl_append, foldl_from]; rfl

theorem allDig_nil : allDig [] = true := rfl
theorem allDig_cons (c : Int) (l : List Int) : allDig (c :: l) = (isDig c && allDig l) := by simp [allDig]
theorem allDig_append (a b : List Int) : allDig (a ++ b) = (allDig a && allDig b) := by simp [allDig]
theorem allDig_get {l : List Int} (h : allDig l = true) (k : Nat) (hk : k < l.length) : 48 ≤ nth l k ∧ nth l k ≤ 57 := by
  rw [nth_lt hk]
  exact (isDig_iff _).1 (List.all_eq_true.1 h _ (List.getElem_mem hk))
theorem allDig_take {l : List Int} (h : allDig l = true) (k : Nat) : allDig (l.take k) = true := by
  rw [← List.take_append_drop k l, allDig_append, Bool.and_eq_true] at h; exact h.1
theorem allDig_drop {l : List Int} (h : allDig l = true) (k : Nat) : allDig (l.drop k) = true := by
  rw [← List.take_append_drop k l, allDig_append, Bool.and_eq_true] at h; exact h.2

theorem val_bd {l : List Int} (h : allDig l = true) : 0 ≤ val l ∧ val l < p10 l.length := by
  induction l with
  | nil => exact ⟨by decide, by decide⟩
  | cons c l ih =>
    rw [allDig_cons, Bool.and_eq_true, isDig_iff] at h
    obtain ⟨⟨h1, h2⟩, h3⟩ := h
    have hp := p10_pos l.length
    have := ih h3
    rw [val_cons, List.length_cons]
    simp only [p10]
    have e1 : 0 ≤ (c - 48) * p10 l.length := Int.mul_nonneg (by omega) (by omega)
    have e2 : (c - 48) * p10 l.length ≤ 9 * p10 l.length := Int.mul_le_mul_of_nonneg_right (by omega) (by omega)
    omega

theorem val_bd19 {l : List Int} (h : allDig l = true) (hl : l.length ≤ 19) : 0 ≤ val l ∧ val l < 10000000000000000000 := by
  have := val_bd h
  have := p10_le19 hl
  omega

theorem take_snoc' (l : List Int) (k : Nat) (h : k < l.length) : l.take (k + 1) = l.take k ++ [nth l k] := by
  rw [List.take_succ_eq_append_getElem h, nth_lt h]
theorem drop_cons' (l : List Int) (k : Nat) (h : k < l.length) : l.drop k = nth l k :: l.drop (k + 1) := by
  rw [List.drop_eq_getElem_cons h, nth_lt h]

theorem val_take_succ (l : List Int) (k : Nat) (h : k < l.length) : val (l.take (k + 1)) = val (l.take k) * 10 + (nth l k - 48) := by
  rw [take_snoc' l k h, val_snoc]
theorem allDig_take_succ (l : List Int) (k : Nat) (h : k < l.length) : allDig (l.take (k + 1)) = (allDig (l.take k) && isDig (nth l k)) := by
  rw [take_snoc' l k h, allDig_append]; simp [allDig]
theorem val_drop (l : List Int) (k : Nat) (h : k < l.length) : val (l.drop k) = (nth l k - 48) * p10 (l.length - (k + 1)) + val (l.drop (k + 1)) := by
  rw [drop_cons' l k h, val_cons]; simp
theorem allDig_drop_succ (l : List Int) (k : Nat) (h : k < l.length) : allDig (l.drop k) = (isDig (nth l k) && allDig (l.drop (k + 1))) := by
  rw [drop_cons' l k h, allDig_cons]

theorem not_allDig {l : List Int} {k : Nat} (hk : k < l.length) (h : isDig (nth l k) = false) : allDig l = false := by
  cases e : allDig l with
  | false => rfl
  | true =>
    have := allDig_get e k hk
    rw [← isDig_iff, h] at this
    cases this

/-! ### lexicographic comparison -/
def cmp : List Int → List Int → Int
  | [], [] => 0
  | [], _ :: _ => -1
  | _ :: _, [] => 1
  | a :: l, b :: m => if a < b then -1 else if b < a then 1 else cmp l m

theorem cmp_order : ∀ (l m : List Int), l.length = m.length → allDig l = true → allDig m = true →
    (cmp l m < 0 → val l < val m) ∧ (0 < cmp l m → val m < val l) ∧ (cmp l m = 0 → val l = val m) := by
  intro l
  induction l with
  | nil =>
    intro m h _ _
    cases m with
    | nil => simp [cmp]
    | cons b m => simp at h
  | cons a l ih =>
    intro m h ha hm
    cases m with
    | nil => simp at h
    | cons b m =>
      have hl : l.length = m.length := by simpa using h
      rw [allDig_cons, Bool.and_eq_true, isDig_iff] at ha hm
      obtain ⟨ha1, ha2⟩ := ha
      obtain ⟨hb1, hb2⟩ := hm
      have va := val_bd ha2
      have vb := val_bd hb2
      have := ih m hl ha2 hb2
      have hp := p10_pos m.length
      simp only [cmp]
      rw [val_cons, val_cons, hl]
      rw [hl] at va
      by_cases c1 : a < b
      · rw [if_pos c1]
        have : (a - 48) * p10 m.length + p10 m.length ≤ (b - 48) * p10 m.length := by
          have e : (a - 48) * p10 m.length + p10 m.length = (a - 48 + 1) * p10 m.length := by rw [Int.add_mul, Int.one_mul]
          rw [e]
          exact Int.mul_le_mul_of_nonneg_right (by omega) (by omega)
        refine ⟨fun _ => by omega, fun h => by omega, fun h => by omega⟩
      · rw [if_neg c1]
        by_cases c2 : b < a
        · rw [if_pos c2]
          have : (b - 48) * p10 m.length + p10 m.length ≤ (a - 48) * p10 m.length := by
            have e : (b - 48) * p10 m.length + p10 m.length = (b - 48 + 1) * p10 m.length := by rw [Int.add_mul, Int.one_mul]
            rw [e]
            exact Int.mul_le_mul_of_nonneg_right (by omega) (by omega)
          refine ⟨fun h => by omega, fun _ => by omega, fun h => by omega⟩
        · rw [if_neg c2]
          have : a = b := by omega
          subst this
          refine ⟨fun h => by have := this.1 h; omega, fun h => by have := this.2.1 h; omega, fun h => by have := this.2.2 h; omega⟩

/-- Of one length: the rest decides where the heads are equal. -/
theorem cmp_drop_eq (l m : List Int) (k : Nat) (h1 : k < l.length) (h2 : k < m.length) (e : nth l k = nth m k) : cmp (l.drop k) (m.drop k) = cmp (l.drop (k + 1)) (m.drop (k + 1)) := by
  rw [drop_cons' l k h1, drop_cons' m k h2, cmp, e]; simp
theorem cmp_drop_lt (l m : List Int) (k : Nat) (h1 : k < l.length) (h2 : k < m.length) (e : nth l k < nth m k) : cmp (l.drop k) (m.drop k) = -1 := by
  rw [drop_cons' l k h1, drop_cons' m k h2, cmp, if_pos e]
theorem cmp_drop_gt (l m : List Int) (k : Nat) (h1 : k < l.length) (h2 : k < m.length) (e : nth m k < nth l k) : cmp (l.drop k) (m.drop k) = 1 := by
  rw [drop_cons' l k h1, drop_cons' m k h2, cmp, if_neg (by omega), if_pos e]
theorem cmp_drop_end (l m : List Int) (k : Nat) (h1 : l.length = k) (h2 : m.length = k) : cmp (l.drop k) (m.drop k) = 0 := by
  rw [List.drop_eq_nil_of_le (by omega), List.drop_eq_nil_of_le (by omega)]; rfl

/-! ### leading zeros -/
theorem val_zeros (n : Nat) : val (List.replicate n 48) = 0 := by
  induction n with
  | zero => rfl
  | succ n ih => rw [List.replicate_succ, val_cons, ih]; simp
theorem allDig_zeros (n : Nat) : allDig (List.replicate n 48) = true := by
  simp [allDig, isDig]

end Go.Proofs.Qxb6600311aMods.Plain
