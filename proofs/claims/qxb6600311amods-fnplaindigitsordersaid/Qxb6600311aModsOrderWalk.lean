/-
  THE WALK OF FnPlainDigitsOrder.
-/
import Derived.Test.Qxb6600311aModsCompare
import Derived.Deep.RegionWith
namespace Go.Proofs.Qxb6600311aMods
open Go.RowKit
open Plain

/-! ### the law's own tests let the input by -/
theorem ord_big (a b : Option Addr) (l1 c1 l2 c2 : Nat) (w : World) (hm1 : l1 ≤ 9223372036854775807) (hm2 : l2 ≤ 9223372036854775807)
    (h : 1048576 < l1 ∨ (l1 ≤ 1048576 ∧ 1048576 < l2) ∨ (l1 ≤ 1048576 ∧ l2 ≤ 1048576 ∧ 1048576 < l1 + l2)) :
    Calls Trym.prog 5 #[.slice a l1 c1, .slice b l2 c2] w fun e w' => e = .returned (.bool true) ∧ w' = w := by
  rcases h with h | ⟨h, h'⟩ | ⟨h, h', h''⟩
  all_goals
    go_enter Trym.func5, Trym.ntmps5
    go_wp2
    go_ret
    exact ⟨rfl, rfl⟩

theorem ord_half (a b : Option Addr) (l1 c1 l2 c2 : Nat) (w : World) (hs : l1 + l2 ≤ 1048576) (h : 524288 < l1 ∨ (l1 ≤ 524288 ∧ 524288 < l2)) :
    Calls Trym.prog 5 #[.slice a l1 c1, .slice b l2 c2] w fun e w' => e = .returned (.bool true) ∧ w' = w := by
  rcases h with h | ⟨h, h'⟩
  all_goals
    go_enter Trym.func5, Trym.ntmps5
    go_wp2
    go_ret
    exact ⟨rfl, rfl⟩

theorem ord_unequal (a b : Option Addr) (l1 c1 l2 c2 : Nat) (w : World) (h1 : l1 ≤ 524288) (h2 : l2 ≤ 524288) (h : l1 ≠ l2) :
    Calls Trym.prog 5 #[.slice a l1 c1, .slice b l2 c2] w fun e w' => e = .returned (.bool true) ∧ w' = w := by
  have hd : decide ((524288 : Int) < (l1 : Int)) = false := by simp; omega
  have hne : ((l1 : Int) != (l2 : Int)) = true := by simp; omega
  rcases (show l1 < l2 ∨ l2 < l1 by omega) with h' | h'
  all_goals
    clear h
    go_enter Trym.func5, Trym.ntmps5
    go_wp2
    go_ret
    exact ⟨rfl, rfl⟩

theorem ord_len (a b : Option Addr) (len c1 c2 : Nat) (w : World) (h1 : len ≤ 524288) (h : len < 1 ∨ 19 < len) :
    Calls Trym.prog 5 #[.slice a len c1, .slice b len c2] w fun e w' => e = .returned (.bool true) ∧ w' = w := by
  have hd : decide ((524288 : Int) < (len : Int)) = false := by simp; omega
  rcases h with h | h
  · go_enter Trym.func5, Trym.ntmps5
    go_wp2
    go_ret
    exact ⟨rfl, rfl⟩
  · have hd2 : decide ((len : Int) < 1) = false := by simp; omega
    go_enter Trym.func5, Trym.ntmps5
    go_wp2
    go_ret
    exact ⟨rfl, rfl⟩

/-! ### one length from 1 to 19 -/
set_option maxHeartbeats 800000 in
theorem ord_nodig (a b : Option Addr) (len c1 c2 : Nat) (xs ys : List Int) (w : World) (h1 : 1 ≤ len) (h19 : len ≤ 19)
    (hx0 : xs.length = len) (hy0 : ys.length = len) (hbx0 : Byt xs) (hby0 : Byt ys) (hrx0 : Rd w a xs) (hry0 : Rd w b ys) (h : allDig xs = false ∨ (allDig xs = true ∧ allDig ys = false)) :
    Calls Trym.prog 5 #[.slice a len c1, .slice b len c2] w fun e w' => e = .returned (.bool true) ∧ w' = w := by
  have hx : Hid (xs.length = len) := hx0
  have hy : Hid (ys.length = len) := hy0
  have hbx : Hid (Byt xs) := hbx0
  have hby : Hid (Byt ys) := hby0
  have hrx : Hid (Rd w a xs) := hrx0
  have hry : Hid (Rd w b ys) := hry0
  clear hx0 hy0 hbx0 hby0 hrx0 hry0
  have hd : decide ((524288 : Int) < (len : Int)) = false := by simp; omega
  have hd2 : decide ((len : Int) < 1) = false := by simp; omega
  rcases h with h | ⟨h, h'⟩
  · have HX : Hid (allDig xs = false) := h
    clear h
    go_enter Trym.func5, Trym.ntmps5
    go_wp2_with (first
      | (go_at_call 14; go_must (refine (ad_len a len c1 xs _ false hx.out (by omega) hbx.out HX.out hrx.out).mono ?_; rintro e w2 ⟨rfl, rfl⟩))
      | go_in)
    go_ret
    exact ⟨rfl, rfl⟩
  · have HX : Hid (allDig xs = true) := h
    have HY : Hid (allDig ys = false) := h'
    clear h h'
    go_enter Trym.func5, Trym.ntmps5
    go_wp2_with (first
      | (go_at_call_of 14 (Value.slice a len c1); go_must (refine (ad_len a len c1 xs _ true hx.out (by omega) hbx.out HX.out hrx.out).mono ?_; rintro e w2 ⟨rfl, rfl⟩))
      | (go_at_call_of 14 (Value.slice b len c2); go_must (refine (ad_len b len c2 ys _ false hy.out (by omega) hby.out HY.out hry.out).mono ?_; rintro e w2 ⟨rfl, rfl⟩))
      | go_in)
    go_ret
    exact ⟨rfl, rfl⟩

set_option maxHeartbeats 1600000 in
theorem ord_dig (a b : Option Addr) (len c1 c2 : Nat) (xs ys : List Int) (w : World) (h1 : 1 ≤ len) (h19 : len ≤ 19)
    (hx0 : xs.length = len) (hy0 : ys.length = len) (hbx0 : Byt xs) (hby0 : Byt ys) (hrx0 : Rd w a xs) (hry0 : Rd w b ys) (hna0 : a = none → len = 0 ∧ c1 = 0) (hnb0 : b = none → len = 0 ∧ c2 = 0) (hdx0 : allDig xs = true) (hdy0 : allDig ys = true)
    (h : (cmp xs ys < 0 ∧ val xs < val ys) ∨ (0 < cmp xs ys ∧ val ys < val xs) ∨ (cmp xs ys = 0 ∧ val xs = val ys)) :
    Calls Trym.prog 5 #[.slice a len c1, .slice b len c2] w fun e w' => e = .returned (.bool true) ∧ Below w.heap.size w w' := by
  have hx : Hid (xs.length = len) := hx0
  have hy : Hid (ys.length = len) := hy0
  have hbx : Hid (Byt xs) := hbx0
  have hby : Hid (Byt ys) := hby0
  have hrx : Hid (Rd w a xs) := hrx0
  have hry : Hid (Rd w b ys) := hry0
  have hna : Hid (a = none → len = 0 ∧ c1 = 0) := hna0
  have hnb : Hid (b = none → len = 0 ∧ c2 = 0) := hnb0
  have HX : Hid (allDig xs = true) := hdx0
  have HY : Hid (allDig ys = true) := hdy0
  have AX : Hid (accB xs = true) := accB_yes (by omega) (by omega) hdx0
  have AY : Hid (accB ys = true) := accB_yes (by omega) (by omega) hdy0
  clear hx0 hy0 hbx0 hby0 hrx0 hry0 hna0 hnb0 hdx0 hdy0
  have hd : decide ((524288 : Int) < (len : Int)) = false := by simp; omega
  have hd2 : decide ((len : Int) < 1) = false := by simp; omega
  rcases h with ⟨h, h'⟩ | ⟨h, h'⟩ | ⟨h, h'⟩
  · go_enter Trym.func5, Trym.ntmps5
    go_wp2_with (first
      | (go_at_call_of 14 (Value.slice a len c1); go_must (refine (ad_len a len c1 xs _ true hx.out (by omega) hbx.out HX.out hrx.out).mono ?_; rintro e w' ⟨rfl, rfl⟩))
      | (go_at_call_of 14 (Value.slice b len c2); go_must (refine (ad_len b len c2 ys _ true hy.out (by omega) hby.out HY.out hry.out).mono ?_; rintro e w' ⟨rfl, rfl⟩))
      | (go_at_call_of 12 (Value.slice a len c1); go_must (refine (clone_len a len c1 xs _ hx.out (by omega) hna.out hrx.out).mono ?_; rintro e w1 ⟨a1, d1, rfl, hcap1, HR1, HB1⟩; have HRb := hry.out.below HB1.out; have HRb' : Hid (Rd w1 b ys) := HRb; clear HRb))
      | (go_at_call_of 12 (Value.slice b len c2); go_must (refine (clone_len b len c2 ys _ hy.out (by omega) hnb.out HRb'.out).mono ?_; rintro e w2 ⟨b1, d2, rfl, hcap2, HR2, HB2⟩; have HRa' : Hid (Rd w2 a1 xs) := HR1.out.below HB2.out; have HB12 : Hid (Below _ _ w2) := HB1.out.trans (HB2.out.mono HB1.out.size)))
      | (go_at_call_of 13 (Value.slice a1 len d1); go_must (refine (zpd_yes a1 len d1 xs _ hx.out hbx.out AX.out HRa'.out).mono ?_; rintro e w' ⟨rfl, rfl⟩))
      | (go_at_call_of 13 (Value.slice b1 len d2); go_must (refine (zpd_yes b1 len d2 ys _ hy.out hby.out AY.out HR2.out).mono ?_; rintro e w' ⟨rfl, rfl⟩))
      | (go_at_call 18; go_must (refine (cmp_any a1 b1 d1 d2 len xs ys _ h1 h19 hx.out hy.out HRa'.out HR2.out).mono ?_; rintro e w3 ⟨rfl, HB3⟩))
      | go_in)
    go_ret
    exact ⟨rfl, HB12.out.trans (HB3.out.mono HB12.out.size)⟩
  · go_enter Trym.func5, Trym.ntmps5
    go_wp2_with (first
      | (go_at_call_of 14 (Value.slice a len c1); go_must (refine (ad_len a len c1 xs _ true hx.out (by omega) hbx.out HX.out hrx.out).mono ?_; rintro e w' ⟨rfl, rfl⟩))
      | (go_at_call_of 14 (Value.slice b len c2); go_must (refine (ad_len b len c2 ys _ true hy.out (by omega) hby.out HY.out hry.out).mono ?_; rintro e w' ⟨rfl, rfl⟩))
      | (go_at_call_of 12 (Value.slice a len c1); go_must (refine (clone_len a len c1 xs _ hx.out (by omega) hna.out hrx.out).mono ?_; rintro e w1 ⟨a1, d1, rfl, hcap1, HR1, HB1⟩; have HRb := hry.out.below HB1.out; have HRb' : Hid (Rd w1 b ys) := HRb; clear HRb))
      | (go_at_call_of 12 (Value.slice b len c2); go_must (refine (clone_len b len c2 ys _ hy.out (by omega) hnb.out HRb'.out).mono ?_; rintro e w2 ⟨b1, d2, rfl, hcap2, HR2, HB2⟩; have HRa' : Hid (Rd w2 a1 xs) := HR1.out.below HB2.out; have HB12 : Hid (Below _ _ w2) := HB1.out.trans (HB2.out.mono HB1.out.size)))
      | (go_at_call_of 13 (Value.slice a1 len d1); go_must (refine (zpd_yes a1 len d1 xs _ hx.out hbx.out AX.out HRa'.out).mono ?_; rintro e w' ⟨rfl, rfl⟩))
      | (go_at_call_of 13 (Value.slice b1 len d2); go_must (refine (zpd_yes b1 len d2 ys _ hy.out hby.out AY.out HR2.out).mono ?_; rintro e w' ⟨rfl, rfl⟩))
      | (go_at_call 18; go_must (refine (cmp_any a1 b1 d1 d2 len xs ys _ h1 h19 hx.out hy.out HRa'.out HR2.out).mono ?_; rintro e w3 ⟨rfl, HB3⟩))
      | go_in)
    go_ret
    exact ⟨rfl, HB12.out.trans (HB3.out.mono HB12.out.size)⟩
  · have hc0 : ¬ cmp xs ys < 0 := by omega
    have hc1 : ¬ 0 < cmp xs ys := by omega
    have hv : (val xs == val ys) = true := by simp [h']
    clear h h'
    go_enter Trym.func5, Trym.ntmps5
    go_wp2_with (first
      | (go_at_call_of 14 (Value.slice a len c1); go_must (refine (ad_len a len c1 xs _ true hx.out (by omega) hbx.out HX.out hrx.out).mono ?_; rintro e w' ⟨rfl, rfl⟩))
      | (go_at_call_of 14 (Value.slice b len c2); go_must (refine (ad_len b len c2 ys _ true hy.out (by omega) hby.out HY.out hry.out).mono ?_; rintro e w' ⟨rfl, rfl⟩))
      | (go_at_call_of 12 (Value.slice a len c1); go_must (refine (clone_len a len c1 xs _ hx.out (by omega) hna.out hrx.out).mono ?_; rintro e w1 ⟨a1, d1, rfl, hcap1, HR1, HB1⟩; have HRb := hry.out.below HB1.out; have HRb' : Hid (Rd w1 b ys) := HRb; clear HRb))
      | (go_at_call_of 12 (Value.slice b len c2); go_must (refine (clone_len b len c2 ys _ hy.out (by omega) hnb.out HRb'.out).mono ?_; rintro e w2 ⟨b1, d2, rfl, hcap2, HR2, HB2⟩; have HRa' : Hid (Rd w2 a1 xs) := HR1.out.below HB2.out; have HB12 : Hid (Below _ _ w2) := HB1.out.trans (HB2.out.mono HB1.out.size)))
      | (go_at_call_of 13 (Value.slice a1 len d1); go_must (refine (zpd_yes a1 len d1 xs _ hx.out hbx.out AX.out HRa'.out).mono ?_; rintro e w' ⟨rfl, rfl⟩))
      | (go_at_call_of 13 (Value.slice b1 len d2); go_must (refine (zpd_yes b1 len d2 ys _ hy.out hby.out AY.out HR2.out).mono ?_; rintro e w' ⟨rfl, rfl⟩))
      | (go_at_call 18; go_must (refine (cmp_any a1 b1 d1 d2 len xs ys _ h1 h19 hx.out hy.out HRa'.out HR2.out).mono ?_; rintro e w3 ⟨rfl, HB3⟩))
      | go_in)
    go_ret
    exact ⟨rfl, HB12.out.trans (HB3.out.mono HB12.out.size)⟩

theorem ord_any (a b : Option Addr) (l1 c1 l2 c2 : Nat) (xs ys : List Int) (w : World) (hx : xs.length = l1) (hy : ys.length = l2) (hbx : Byt xs) (hby : Byt ys) (hrx : Rd w a xs) (hry : Rd w b ys)
    (hna : a = none → l1 = 0 ∧ c1 = 0) (hnb : b = none → l2 = 0 ∧ c2 = 0) (hm1 : l1 ≤ 9223372036854775807) (hm2 : l2 ≤ 9223372036854775807) :
    Calls Trym.prog 5 #[.slice a l1 c1, .slice b l2 c2] w fun e w' => e = .returned (.bool true) ∧ Below w.heap.size w w' := by
  have same : (Calls Trym.prog 5 #[.slice a l1 c1, .slice b l2 c2] w fun e w' => e = .returned (.bool true) ∧ w' = w) →
      Calls Trym.prog 5 #[.slice a l1 c1, .slice b l2 c2] w fun e w' => e = .returned (.bool true) ∧ Below w.heap.size w w' :=
    fun h => h.mono fun e w' ⟨he, hw⟩ => ⟨he, hw ▸ Below.refl _ _⟩
  by_cases hbig : 1048576 < l1 ∨ (l1 ≤ 1048576 ∧ 1048576 < l2) ∨ (l1 ≤ 1048576 ∧ l2 ≤ 1048576 ∧ 1048576 < l1 + l2)
  · exact same (ord_big a b l1 c1 l2 c2 w hm1 hm2 hbig)
  · by_cases hhalf : 524288 < l1 ∨ (l1 ≤ 524288 ∧ 524288 < l2)
    · exact same (ord_half a b l1 c1 l2 c2 w (by omega) hhalf)
    · by_cases hne : l1 = l2
      · subst hne
        by_cases hlen : l1 < 1 ∨ 19 < l1
        · exact same (ord_len a b l1 c1 c2 w (by omega) hlen)
        · cases hdx : allDig xs with
          | false => exact same (ord_nodig a b l1 c1 c2 xs ys w (by omega) (by omega) hx hy hbx hby hrx hry (.inl hdx))
          | true =>
            cases hdy : allDig ys with
            | false => exact same (ord_nodig a b l1 c1 c2 xs ys w (by omega) (by omega) hx hy hbx hby hrx hry (.inr ⟨hdx, hdy⟩))
            | true =>
              have ho := cmp_order xs ys (by omega) hdx hdy
              refine ord_dig a b l1 c1 c2 xs ys w (by omega) (by omega) hx hy hbx hby hrx hry hna hnb hdx hdy ?_
              by_cases c : cmp xs ys < 0
              · exact .inl ⟨c, ho.1 c⟩
              · by_cases c' : 0 < cmp xs ys
                · exact .inr (.inl ⟨c', ho.2.1 c'⟩)
                · have c0 : cmp xs ys = 0 := by omega
                  exact .inr (.inr ⟨c0, ho.2.2 c0⟩)
      · exact same (ord_unequal a b l1 c1 l2 c2 w (by omega) (by omega) hne)

end Go.Proofs.Qxb6600311aMods
