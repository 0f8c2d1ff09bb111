/-
  THE WALK OF FnHex4Exact.
-/
import Derived.Test.Qxb6600311aModsHexValue
namespace Go.Proofs.Qxb6600311aMods
open Go.RowKit
open Plain

/-- What the law has summed behind k rounds. -/
def wv (ys : List Int) (k : Nat) : Int := hx (ys.take k) * p16 (4 - k)

theorem wv_next {ys : List Int} {k : Nat} (hk : k < 4) (hl : k < ys.length) : wv ys (k + 1) = wv ys k + hv (nth ys k) * p16 (3 - k) := by
  unfold wv
  rw [hx_take_succ ys k hl]
  rcases (show k = 0 ∨ k = 1 ∨ k = 2 ∨ k = 3 by omega) with rfl | rfl | rfl | rfl
  · show (_ * 16 + _) * 4096 = _ * 65536 + _ * 4096; omega
  · show (_ * 16 + _) * 256 = _ * 4096 + _ * 256; omega
  · show (_ * 16 + _) * 16 = _ * 256 + _ * 16; omega
  · show (_ * 16 + _) * 1 = _ * 16 + _ * 1; omega
theorem wv_bd {ys : List Int} {k : Nat} (hk : k ≤ 4) (hl : 4 ≤ ys.length) (ho : hexOk (ys.take k) = true) : 0 ≤ wv ys k ∧ wv ys k < 65536 := by
  have := hx_bd' ho
  rw [List.length_take, Nat.min_eq_left (by omega)] at this
  unfold wv
  rcases (show k = 0 ∨ k = 1 ∨ k = 2 ∨ k = 3 ∨ k = 4 by omega) with rfl | rfl | rfl | rfl | rfl
  · have e : p16 0 = 1 := rfl
    show 0 ≤ _ * 65536 ∧ _ * 65536 < 65536; omega
  · have e : p16 1 = 16 := rfl
    show 0 ≤ _ * 4096 ∧ _ * 4096 < 65536; omega
  · have e : p16 2 = 256 := rfl
    show 0 ≤ _ * 256 ∧ _ * 256 < 65536; omega
  · have e : p16 3 = 4096 := rfl
    show 0 ≤ _ * 16 ∧ _ * 16 < 65536; omega
  · have e : p16 4 = 65536 := rfl
    show 0 ≤ _ * 1 ∧ _ * 1 < 65536; omega
theorem wv_end {ys : List Int} (ho : hexOk (ys.take 4) = true) : h4 ys = wv ys 4 := by
  rw [h4_yes ho]; show _ = _ * 1; omega
theorem hexOk_next {ys : List Int} {k : Nat} (hl : k < ys.length) (ho : hexOk (ys.take k) = true) (h : 0 ≤ hv (nth ys k)) : hexOk (ys.take (k + 1)) = true := by
  rw [hexOk_take_succ ys k hl, ho]; simp [h]

theorem hex_big (a : Option Addr) (len cap : Nat) (w : World) (hl : 1048576 < len) (hm : len ≤ 9223372036854775807) :
    Calls Trym.prog 6 #[.slice a len cap] w fun e w' => e = .returned (.bool true) ∧ w' = w := by
  go_enter Trym.func6, Trym.ntmps6
  go_wp2
  go_ret
  exact ⟨rfl, rfl⟩
theorem hex_short (a : Option Addr) (len cap : Nat) (w : World) (hl : len < 4) :
    Calls Trym.prog 6 #[.slice a len cap] w fun e w' => e = .returned (.bool true) ∧ w' = w := by
  go_enter Trym.func6, Trym.ntmps6
  go_wp2
  go_ret
  exact ⟨rfl, rfl⟩

set_option maxHeartbeats 1600000 in
theorem hex_in (a : Option Addr) (len cap : Nat) (ys : List Int) (w : World) (h4l : 4 ≤ len) (hl : len ≤ 1048576)
    (hz0 : ys.length = len) (hb0 : Byt ys) (hr0 : Rd w a ys) (hn0 : a = none → len = 0 ∧ cap = 0) :
    Calls Trym.prog 6 #[.slice a len cap] w fun e w' => e = .returned (.bool true) ∧ Below w.heap.size w w' := by
  have hz : Hid (ys.length = len) := hz0
  have hb : Hid (Byt ys) := hb0
  have hr : Hid (Rd w a ys) := hr0
  have hn : Hid (a = none → len = 0 ∧ cap = 0) := hn0
  clear hz0 hb0 hr0 hn0
  go_enter Trym.func6, Trym.ntmps6
  go_wp2_with (first
    | (go_at_call 12; refine (clone_len _ _ _ ys _ hz.out hl hn.out hr.out).mono ?_; rintro e w1 ⟨a1, cap1, rfl, hcap, HR, HB⟩; obtain ⟨b, off, ha1, hc0⟩ := HR.out (by rw [hz.out]; omega); subst ha1; have HC : Hid (∀ k, k < ys.length → w1.cell? ⟨b, off + k, none⟩ = some (.int .u8 (nth ys k))) := hc0; clear hc0)
    | (go_at_call 20; go_must (refine (zhex4_any _ _ _ ys _ hz.out h4l hcap hb.out HR.out).mono ?_; rintro e w4 ⟨rfl, rfl⟩))
    | go_in)
  go_loop [4, 5] (fun x i => ∃ k : Nat, k ≤ 4 ∧ i = .int .i64 k ∧ Hid (hexOk (ys.take k) = true) ∧ x = .int .i32 (wv ys k)) (fun _ i => 4 - (intOf i).toNat)
  case atStart => exact ⟨0, Nat.zero_le _, rfl, rfl, rfl⟩
  case round =>
    obtain ⟨k, hk, rfl, HO, rfl⟩ := hrel
    by_cases hlt : k < 4
    · have HK : Hid (k < ys.length) := by have := hz.out; show _ < _; omega
      have hcell := HC.out k HK.out
      have hbk := hv_bd (nth ys k)
      have hwb := wv_bd hk (by rw [hz.out]; exact h4l) HO.out
      by_cases hneg : hv (nth ys k) < 0
      · have HN := hexOk_no hlt HK.out hneg
        have hN : (h4 ys == -1) = true := by simp [HN]
        clear HN
        go_wp2_with (go_at_call 21; go_must (refine (hv_any _ _).mono ?_; rintro e w4 ⟨rfl, rfl⟩))
        go_ret
        exact ⟨rfl, HB.out⟩
      · rcases (show k = 0 ∨ k = 1 ∨ k = 2 ∨ k = 3 by omega) with rfl | rfl | rfl | rfl
        · have HW : Hid (wv ys 1 = wv ys 0 + hv (nth ys 0) * 4096) := wv_next hlt HK.out
          have HO1 : Hid (hexOk (ys.take 1) = true) := hexOk_next HK.out HO.out (by omega)
          rw [Nat.add_zero] at hcell
          go_wp2_with (go_at_call 21; go_must (refine (hv_any _ _).mono ?_; rintro e w4 ⟨rfl, rfl⟩))
          go_round
          case rel => exact ⟨1, by omega, rfl, HO1, by rw [HW.out]⟩
          case measure => simp [intOf]
        · have HW : Hid (wv ys 2 = wv ys 1 + hv (nth ys 1) * 256) := wv_next hlt HK.out
          have HO1 : Hid (hexOk (ys.take 2) = true) := hexOk_next HK.out HO.out (by omega)
          go_wp2_with (go_at_call 21; go_must (refine (hv_any _ _).mono ?_; rintro e w4 ⟨rfl, rfl⟩))
          go_round
          case rel => exact ⟨2, by omega, rfl, HO1, by rw [HW.out]⟩
          case measure => simp [intOf]
        · have HW : Hid (wv ys 3 = wv ys 2 + hv (nth ys 2) * 16) := wv_next hlt HK.out
          have HO1 : Hid (hexOk (ys.take 3) = true) := hexOk_next HK.out HO.out (by omega)
          go_wp2_with (go_at_call 21; go_must (refine (hv_any _ _).mono ?_; rintro e w4 ⟨rfl, rfl⟩))
          go_round
          case rel => exact ⟨3, by omega, rfl, HO1, by rw [HW.out]⟩
          case measure => simp [intOf]
        · have HW : Hid (wv ys 4 = wv ys 3 + hv (nth ys 3) * 1) := wv_next hlt HK.out
          have HO1 : Hid (hexOk (ys.take 4) = true) := hexOk_next HK.out HO.out (by omega)
          go_wp2_with (go_at_call 21; go_must (refine (hv_any _ _).mono ?_; rintro e w4 ⟨rfl, rfl⟩))
          go_round
          case rel => exact ⟨4, by omega, rfl, HO1, by rw [HW.out]; go_num⟩
          case measure => simp [intOf]
    · have hk4 : k = 4 := by omega
      subst hk4
      have hN : (h4 ys == wv ys 4) = true := by simp [wv_end HO.out]
      go_wp2
      go_ret
      exact ⟨rfl, HB.out⟩

theorem hex_any (a : Option Addr) (len cap : Nat) (ys : List Int) (w : World) (hz : ys.length = len) (hb : Byt ys) (hr : Rd w a ys) (hn : a = none → len = 0 ∧ cap = 0) (hm : len ≤ 9223372036854775807) :
    Calls Trym.prog 6 #[.slice a len cap] w fun e w' => e = .returned (.bool true) ∧ Below w.heap.size w w' := by
  by_cases hl : 1048576 < len
  · exact (hex_big a len cap w hl hm).mono fun e w' ⟨he, hw⟩ => ⟨he, hw ▸ Below.refl _ _⟩
  · by_cases h4l : len < 4
    · exact (hex_short a len cap w h4l).mono fun e w' ⟨he, hw⟩ => ⟨he, hw ▸ Below.refl _ _⟩
    · exact hex_in a len cap ys w (by omega) (by omega) hz hb hr hn

end Go.Proofs.Qxb6600311aMods
