/-
  THE WALK OF FnPlainDigitsExact.
-/
import Derived.Test.Qxb6600311aModsShared
namespace Go.Proofs.Qxb6600311aMods
open Go.RowKit
open Plain

theorem pde_big (a : Option Addr) (len cap : Nat) (w : World) (hl : 1048576 < len) (hm : len ≤ 9223372036854775807) :
    Calls Trym.prog 3 #[.slice a len cap] w fun e w' => e = .returned (.bool true) ∧ w' = w := by
  go_enter Trym.func3, Trym.ntmps3
  go_wp2
  go_ret
  exact ⟨rfl, rfl⟩

set_option maxHeartbeats 400000 in
theorem pde_no (a : Option Addr) (len cap : Nat) (ys : List Int) (w : World) (hz0 : ys.length = len) (hb0 : Byt ys) (hr0 : Rd w a ys) (hn0 : a = none → len = 0 ∧ cap = 0) (hl : len ≤ 1048576)
    (hacc0 : accB ys = false) (h : len = 0 ∨ 19 < len ∨ (1 ≤ len ∧ len ≤ 19 ∧ allDig ys = false)) :
    Calls Trym.prog 3 #[.slice a len cap] w fun e w' => e = .returned (.bool true) ∧ Below w.heap.size w w' := by
  have hz : Hid (ys.length = len) := hz0
  have hb : Hid (Byt ys) := hb0
  have hr : Hid (Rd w a ys) := hr0
  have hn : Hid (a = none → len = 0 ∧ cap = 0) := hn0
  have hacc : Hid (accB ys = false) := hacc0
  clear hz0 hb0 hr0 hn0 hacc0
  rcases h with rfl | h | ⟨h1, h2, h3⟩
  · go_enter Trym.func3, Trym.ntmps3
    go_wp2_with (first
      | (go_at_call 12; refine (clone_len _ _ _ ys _ hz.out hl hn.out hr.out).mono ?_; rintro e w1 ⟨a1, cap1, rfl, hcap, HR, hB⟩)
      | (go_at_call 13; refine (zpd_no _ _ _ ys _ hz.out hb.out hacc.out HR.out).mono ?_; rintro e w2 ⟨rfl, rfl⟩)
      | go_in)
    go_ret
    exact ⟨rfl, hB.out⟩
  · go_enter Trym.func3, Trym.ntmps3
    go_wp2_with (first
      | (go_at_call 12; refine (clone_len _ _ _ ys _ hz.out hl hn.out hr.out).mono ?_; rintro e w1 ⟨a1, cap1, rfl, hcap, HR, hB⟩)
      | (go_at_call 13; refine (zpd_no _ _ _ ys _ hz.out hb.out hacc.out HR.out).mono ?_; rintro e w2 ⟨rfl, rfl⟩)
      | go_in)
    go_ret
    exact ⟨rfl, hB.out⟩
  · have H3 : Hid (allDig ys = false) := h3
    clear h3
    go_enter Trym.func3, Trym.ntmps3
    go_wp2_with (first
      | (go_at_call 12; refine (clone_len _ _ _ ys _ hz.out hl hn.out hr.out).mono ?_; rintro e w1 ⟨a1, cap1, rfl, hcap, HR, hB⟩)
      | (go_at_call 13; refine (zpd_no _ _ _ ys _ hz.out hb.out hacc.out HR.out).mono ?_; rintro e w2 ⟨rfl, rfl⟩)
      | (go_at_call 14; refine (ad_len _ _ _ ys _ false hz.out (by omega) hb.out H3.out HR.out).mono ?_; rintro e w2 ⟨rfl, rfl⟩)
      | go_in)
    go_ret
    exact ⟨rfl, hB.out⟩

theorem pde_yes (a : Option Addr) (len cap : Nat) (ys : List Int) (w : World) (hz0 : ys.length = len) (hb0 : Byt ys) (hr0 : Rd w a ys) (hn0 : a = none → len = 0 ∧ cap = 0)
    (h1 : 1 ≤ len) (h2 : len ≤ 19) (h3 : allDig ys = true) :
    Calls Trym.prog 3 #[.slice a len cap] w fun e w' => e = .returned (.bool true) ∧ Below w.heap.size w w' := by
  have hz : Hid (ys.length = len) := hz0
  have hb : Hid (Byt ys) := hb0
  have hr : Hid (Rd w a ys) := hr0
  have hn : Hid (a = none → len = 0 ∧ cap = 0) := hn0
  have hacc : Hid (accB ys = true) := accB_yes (by omega) (by omega) h3
  have H3 : Hid (allDig ys = true) := h3
  clear hz0 hb0 hr0 hn0 h3
  go_enter Trym.func3, Trym.ntmps3
  go_wp2_with (first
    | (go_at_call 12; refine (clone_len _ _ _ ys _ hz.out (by omega) hn.out hr.out).mono ?_; rintro e w1 ⟨a1, cap1, rfl, hcap, HR, hB⟩)
    | (go_at_call 13; refine (zpd_yes _ _ _ ys _ hz.out hb.out hacc.out HR.out).mono ?_; rintro e w2 ⟨rfl, rfl⟩)
    | (go_at_call 14; refine (ad_len _ _ _ ys _ true hz.out (by omega) hb.out H3.out HR.out).mono ?_; rintro e w2 ⟨rfl, rfl⟩)
    | (go_at_call 15; refine (vp_len _ _ _ ys _ hz.out h1 h2 H3.out HR.out).mono ?_; rintro e w2 ⟨rfl, rfl⟩)
    | go_in)
  go_ret
  exact ⟨rfl, hB.out⟩

theorem pde_any (a : Option Addr) (len cap : Nat) (ys : List Int) (w : World) (hz : ys.length = len) (hb : Byt ys) (hr : Rd w a ys) (hn : a = none → len = 0 ∧ cap = 0) (hm : len ≤ 9223372036854775807) :
    Calls Trym.prog 3 #[.slice a len cap] w fun e w' => e = .returned (.bool true) ∧ Below w.heap.size w w' := by
  by_cases hl : 1048576 < len
  · exact (pde_big a len cap w hl hm).mono fun e w' ⟨he, hw⟩ => ⟨he, hw ▸ Below.refl _ _⟩
  · by_cases h0 : len = 0
    · exact pde_no a len cap ys w hz hb hr hn (by omega) (accB_len0 (by omega)) (.inl h0)
    · by_cases h19 : 19 < len
      · exact pde_no a len cap ys w hz hb hr hn (by omega) (accB_len20 (by omega)) (.inr (.inl h19))
      · cases hd : allDig ys with
        | false => exact pde_no a len cap ys w hz hb hr hn (by omega) (accB_no hd) (.inr (.inr ⟨by omega, by omega, hd⟩))
        | true => exact pde_yes a len cap ys w hz hb hr hn (by omega) (by omega) hd

end Go.Proofs.Qxb6600311aMods
