/-
  THE WALKS OF ZZplainDigits, otlpB1AllDigits, otlpB1ValueByPlaces.
-/
import Derived.Test.Qxb6600311aModsDigits
namespace Go.Proofs.Qxb6600311aMods
open Go.RowKit
open Plain

theorem zpd_any (a : Option Addr) (cap : Nat) (zs : List Int) (w : World) (hb : Byt zs) (hr : Rd w a zs) :
    Calls Trym.prog 13 #[.slice a zs.length cap] w fun e w' => e = .returned (.tuple #[.int .u64 (pdN zs), .bool (accB zs)]) ∧ w' = w := by
  have H := pd_any a cap zs w hb hr
  have H' : Hid (Calls Trym.prog 27 #[.slice a zs.length cap] w fun e w' => e = .returned (.tuple #[.int .u64 (pdN zs), .bool (accB zs)]) ∧ w' = w) := H
  clear H
  go_enter Trym.func13, Trym.ntmps13
  go_wp2_with (go_at_call 27; refine H'.out.mono ?_; rintro e w' ⟨rfl, rfl⟩)
  go_ret2
  exact ⟨rfl, rfl⟩

theorem ret_bool {b c : Bool} (h : b = c) : Ending.returned (.bool b) = .returned (.bool c) := by rw [h]
theorem ret_num {k : IntKind} {a b : Int} (h : a = b) : Ending.returned (.int k a) = .returned (.int k b) := by rw [h]

theorem ad_empty (a : Option Addr) (cap : Nat) (w : World) :
    Calls Trym.prog 14 #[.slice a 0 cap] w fun e w' => e = .returned (.bool true) ∧ w' = w := by
  go_enter Trym.func14, Trym.ntmps14
  go_wp2
  refine wp_loop_rounds 1 ?_
  rw [rounds_succ]
  go_wp2
  go_ret
  exact ⟨rfl, rfl⟩

theorem ad_row (b off len cap : Nat) (zs : List Int) (w : World) (hz0 : zs.length = len) (hl : len ≤ 9223372036854775807) (hb : Byt zs)
    (hc : ∀ k, k < len → w.cell? ⟨b, off + k, none⟩ = some (.int .u8 (nth zs k))) :
    Calls Trym.prog 14 #[.slice (some ⟨b, off, none⟩) len cap] w fun e w' => e = .returned (.bool (allDig zs)) ∧ w' = w := by
  have hz : Hid (zs.length = len) := hz0
  clear hz0
  have HB : Hid (Byt zs) := hb
  clear hb
  go_enter Trym.func14, Trym.ntmps14
  go_wp2
  go_loop [3] (fun i => ∃ k : Nat, k ≤ len ∧ i = .int .i64 k ∧ allDig (zs.take k) = true) (fun i => len - (intOf i).toNat)
  case atStart => exact ⟨0, Nat.zero_le _, rfl, rfl⟩
  case round =>
    obtain ⟨k, hk, rfl, had⟩ := hrel
    have HA : Hid (allDig (zs.take k) = true) := had
    clear had
    by_cases hlt : k < len
    · have hcell := hc k hlt
      have hbk := HB.out k
      have HK : Hid (k < zs.length) := by have := hz.out; show _ < _; omega
      have HD := allDig_take_succ zs k HK.out
      rw [HA.out, Bool.true_and] at HD
      have HD' : Hid (allDig (zs.take (k + 1)) = isDig (nth zs k)) := HD
      clear HD hc
      by_cases hd : 48 ≤ nth zs k ∧ nth zs k ≤ 57
      · obtain ⟨hd1, hd2⟩ := hd
        go_wp2
        go_round
        case rel => exact ⟨k + 1, by omega, by go_num, by rw [HD'.out]; exact (isDig_iff _).2 ⟨hd1, hd2⟩⟩
        case measure => simp [intOf]; omega
      · have HN : Hid (allDig zs = false) := not_allDig HK.out ((isDig_not _).2 (by omega))
        by_cases hd1 : nth zs k < 48
        · go_wp2
          go_ret
          exact ⟨ret_bool HN.out.symm, rfl⟩
        · have hd2 : 57 < nth zs k := by omega
          go_wp2
          go_ret
          exact ⟨ret_bool HN.out.symm, rfl⟩
    · have HE : Hid (zs.take k = zs) := List.take_of_length_le (by have := hz.out; omega)
      go_wp2
      go_ret
      exact ⟨ret_bool (by have := HA.out; rw [HE.out] at this; exact this.symm), rfl⟩

theorem ad_any (a : Option Addr) (cap : Nat) (zs : List Int) (w : World) (hl : zs.length ≤ 9223372036854775807) (hb : Byt zs) (hr : Rd w a zs) :
    Calls Trym.prog 14 #[.slice a zs.length cap] w fun e w' => e = .returned (.bool (allDig zs)) ∧ w' = w := by
  by_cases h0 : zs.length = 0
  · rw [h0]
    rw [List.eq_nil_of_length_eq_zero h0]
    exact ad_empty a cap w
  · obtain ⟨b, off, rfl, hc⟩ := hr (by omega)
    exact ad_row b off _ cap zs w rfl hl hb hc

theorem vp_row (b off len cap : Nat) (zs : List Int) (w : World) (hz0 : zs.length = len) (hl : len ≤ 19) (had : allDig zs = true)
    (hc : ∀ k, k < len → w.cell? ⟨b, off + k, none⟩ = some (.int .u8 (nth zs k))) :
    Calls Trym.prog 15 #[.slice (some ⟨b, off, none⟩) len cap] w fun e w' => e = .returned (.int .u64 (val zs)) ∧ w' = w := by
  have hz : Hid (zs.length = len) := hz0
  clear hz0
  have HA : Hid (allDig zs = true) := had
  clear had
  go_enter Trym.func15, Trym.ntmps15
  go_wp2
  go_loop [3, 4, 5] (fun v p i => ∃ m : Nat, m ≤ len ∧ i = .int .i64 ((m : Int) - 1) ∧ v = .int .u64 (val (zs.drop m)) ∧ p = .int .u64 (p10 (len - m))) (fun _ _ i => (intOf i + 1).toNat)
  case atStart => exact ⟨len, Nat.le_refl _, rfl, by rw [List.drop_eq_nil_of_le (by have := hz.out; omega)]; rfl, by rw [Nat.sub_self]; rfl⟩
  case round =>
    obtain ⟨m, hm, rfl, rfl, rfl⟩ := hrel
    cases m with
    | zero =>
      go_wp2
      go_ret
      exact ⟨rfl, rfl⟩
    | succ j =>
      have hcell := hc j (by omega)
      have HK : Hid (j < zs.length) := by have := hz.out; show _ < _; omega
      obtain ⟨hd1, hd2⟩ := allDig_get HA.out j HK.out
      have HV := val_drop zs j HK.out
      rw [hz.out] at HV
      have hp := p10_le19 (k := len - j) (by omega)
      have e1 : len - j = (len - (j + 1)) + 1 := by omega
      have HP : Hid (p10 (len - j) = 10 * p10 (len - (j + 1))) := by show _ = _; rw [e1]; rfl
      have hp1 := p10_pos (len - (j + 1))
      have hp2 : p10 (len - (j + 1)) ≤ 1000000000000000000 := by have := HP.out; omega
      have hvb := val_bd (allDig_drop HA.out j)
      rw [List.length_drop, hz.out] at hvb
      have hvc := val_bd (allDig_drop HA.out (j + 1))
      have hv0 : 0 ≤ val (zs.drop (j + 1)) := hvc.1
      have hm0 : 0 ≤ (nth zs j - 48) * p10 (len - (j + 1)) := Int.mul_nonneg (by omega) (by omega)
      have hs : val (zs.drop (j + 1)) + (nth zs j - 48) * p10 (len - (j + 1)) < 10000000000000000000 := by omega
      have hm1 : (nth zs j - 48) * p10 (len - (j + 1)) < 10000000000000000000 := by omega
      have hv1 : val (zs.drop (j + 1)) < 10000000000000000000 := by omega
      have HV' : Hid (val (zs.drop j) = (nth zs j - 48) * p10 (len - (j + 1)) + val (zs.drop (j + 1))) := HV
      clear HV hc hvb hvc hp e1
      rw [show (((j + 1 : Nat) : Int) - 1) = (j : Int) from by omega]
      go_wp2
      go_round
      case rel => exact ⟨j, by omega, by go_num, by rw [HV'.out, Int.add_comm], by rw [HP.out, Int.mul_comm]⟩
      case measure => simp [intOf]

theorem vp_any (a : Option Addr) (cap : Nat) (zs : List Int) (w : World) (h1 : 1 ≤ zs.length) (hl : zs.length ≤ 19) (had : allDig zs = true) (hr : Rd w a zs) :
    Calls Trym.prog 15 #[.slice a zs.length cap] w fun e w' => e = .returned (.int .u64 (val zs)) ∧ w' = w := by
  obtain ⟨b, off, rfl, hc⟩ := hr (by omega)
  exact vp_row b off _ cap zs w rfl hl had hc

end Go.Proofs.Qxb6600311aMods
