/-
  THE WALKS OF hex4 AND ZZhex4.
-/
import Derived.Test.Qxb6600311aModsShared
import Derived.Test.Qxb6600311aModsPlainHex
import Derived.Laws.BitsLemmas
namespace Go.Proofs.Qxb6600311aMods
open Go.RowKit
open Plain

theorem or4 (r d : Int) (h0 : 0 ≤ r) (h1 : r < 4096) (h2 : 0 ≤ d) (h3 : d < 16) : bits .or .i32 (r * 16) d = r * 16 + d :=
  bits_join .i32 31 (by decide) wraps_i32 4 (r * 16) d (by omega) (by omega) (by omega) h2 h3 (by omega)

/-- The round's end: the next digit is laid on. -/
theorem hex_next {zs : List Int} {k : Nat} {d : Int} (hk : k < 4) (hl : k < zs.length) (ho : hexOk (zs.take k) = true) (hd : hv (nth zs k) = d) (h0 : 0 ≤ d) :
    hexOk (zs.take (k + 1)) = true ∧ Value.int .i32 (bits .or .i32 (hx (zs.take k) * 16) d) = .int .i32 (hx (zs.take (k + 1))) := by
  have hb := hx_bd3 ho (by simp; omega)
  have h15 := hv_bd (nth zs k)
  refine ⟨?_, ?_⟩
  · rw [hexOk_take_succ zs k hl, ho, hd]; simp [h0]
  · rw [hx_take_succ zs k hl, or4 _ _ hb.1 hb.2 h0 (by omega), hd]

set_option maxHeartbeats 800000 in
theorem hex4_row (b off len cap : Nat) (zs : List Int) (w : World) (hz0 : zs.length = len) (h4l : 4 ≤ len) (hlc : len ≤ cap) (hb : Byt zs)
    (hc : ∀ k, k < len → w.cell? ⟨b, off + k, none⟩ = some (.int .u8 (nth zs k))) :
    Calls Trym.prog 28 #[.slice (some ⟨b, off, none⟩) len cap] w fun e w' => e = .returned (.int .i32 (h4 zs)) ∧ w' = w := by
  have hz : Hid (zs.length = len) := hz0
  clear hz0
  have HB : Hid (Byt zs) := hb
  clear hb
  go_enter Trym.func28, Trym.ntmps28
  go_wp2
  go_loop [3, 9] (fun r i => ∃ k : Nat, k ≤ 4 ∧ i = .int .i64 k ∧ hexOk (zs.take k) = true ∧ r = .int .i32 (hx (zs.take k))) (fun _ i => 4 - (intOf i).toNat)
  case atStart => exact ⟨0, Nat.zero_le _, rfl, rfl, rfl⟩
  case round =>
    obtain ⟨k, hk, rfl, hok, rfl⟩ := hrel
    have HO : Hid (hexOk (zs.take k) = true) := hok
    clear hok
    by_cases hlt : k < 4
    · have hcell := hc k (by omega)
      have hbk := HB.out k
      have HK : Hid (k < zs.length) := by have := hz.out; show _ < _; omega
      have hxb := hx_bd3 HO.out (by simp; omega)
      clear hc
      by_cases h1 : 48 ≤ nth zs k ∧ nth zs k ≤ 57
      · obtain ⟨h1a, h1b⟩ := h1
        go_wp2
        go_round
        case rel => exact ⟨k + 1, by omega, by go_num, hex_next hlt HK.out HO.out (hv_dig h1a h1b) (by omega)⟩
        case measure => simp [intOf]; omega
      · by_cases h2 : 97 ≤ nth zs k ∧ nth zs k ≤ 102
        · obtain ⟨h2a, h2b⟩ := h2
          clear h1
          go_wp2
          go_round
          case rel => exact ⟨k + 1, by omega, by go_num, hex_next hlt HK.out HO.out (hv_low h2a h2b) (by omega)⟩
          case measure => simp [intOf]; omega
        · by_cases h3 : 65 ≤ nth zs k ∧ nth zs k ≤ 70
          · obtain ⟨h3a, h3b⟩ := h3
            clear h1 h2
            go_wp2
            go_round
            case rel => exact ⟨k + 1, by omega, by go_num, hex_next hlt HK.out HO.out (hv_upp h3a h3b) (by omega)⟩
            case measure => simp [intOf]; omega
          · have hno : nth zs k < 48 ∨ (57 < nth zs k ∧ nth zs k < 65) ∨ (70 < nth zs k ∧ nth zs k < 97) ∨ 102 < nth zs k := by omega
            have HN : Hid (h4 zs = -1) := hexOk_no hlt HK.out (by rw [hv_no hno]; decide)
            clear h1 h2 h3
            rcases hno with h | ⟨h, h'⟩ | ⟨h, h'⟩ | h
            · go_wp2
              go_ret
              exact ⟨ret_num HN.out.symm, rfl⟩
            · go_wp2
              go_ret
              exact ⟨ret_num HN.out.symm, rfl⟩
            · go_wp2
              go_ret
              exact ⟨ret_num HN.out.symm, rfl⟩
            · go_wp2
              go_ret
              exact ⟨ret_num HN.out.symm, rfl⟩
    · have hk4 : k = 4 := by omega
      subst hk4
      go_wp2
      go_ret
      exact ⟨ret_num (h4_yes HO.out).symm, rfl⟩

theorem hex4_any (a : Option Addr) (len cap : Nat) (zs : List Int) (w : World) (hz : zs.length = len) (h4l : 4 ≤ len) (hlc : len ≤ cap) (hb : Byt zs) (hr : Rd w a zs) :
    Calls Trym.prog 28 #[.slice a len cap] w fun e w' => e = .returned (.int .i32 (h4 zs)) ∧ w' = w := by
  obtain ⟨b, off, rfl, hc⟩ := hr (by omega)
  rw [hz] at hc
  exact hex4_row b off len cap zs w hz h4l hlc hb hc

theorem zhex4_any (a : Option Addr) (len cap : Nat) (zs : List Int) (w : World) (hz : zs.length = len) (h4l : 4 ≤ len) (hlc : len ≤ cap) (hb : Byt zs) (hr : Rd w a zs) :
    Calls Trym.prog 20 #[.slice a len cap] w fun e w' => e = .returned (.int .i32 (h4 zs)) ∧ w' = w := by
  have H' : Hid (Calls Trym.prog 28 #[.slice a len cap] w fun e w' => e = .returned (.int .i32 (h4 zs)) ∧ w' = w) := hex4_any a len cap zs w hz h4l hlc hb hr
  clear hz hb hr
  go_enter Trym.func20, Trym.ntmps20
  go_wp2_with (go_at_call 28; refine H'.out.mono ?_; rintro e w' ⟨rfl, rfl⟩)
  go_ret
  exact ⟨rfl, rfl⟩

end Go.Proofs.Qxb6600311aMods
