/-
  THE WALK OF otlpB1HexValue: the value of one hex digit of either case, or -1.
-/
import Derived.Test.Qxb6600311aModsHexRound
namespace Go.Proofs.Qxb6600311aMods
open Go.RowKit
open Plain

theorem low_eq : ∀ d : Fin 16, (((⟨#[48, 49, 50, 51, 52, 53, 54, 55, 56, 57, 97, 98, 99, 100, 101, 102]⟩ : ByteArray)[d.1]'d.2).toNat : Int) = if d.1 < 10 then 48 + (d.1 : Int) else 87 + (d.1 : Int) := by decide
theorem upp_eq : ∀ d : Fin 16, (((⟨#[48, 49, 50, 51, 52, 53, 54, 55, 56, 57, 65, 66, 67, 68, 69, 70]⟩ : ByteArray)[d.1]'d.2).toNat : Int) = if d.1 < 10 then 48 + (d.1 : Int) else 55 + (d.1 : Int) := by decide

theorem hv_not {c : Int} {k : Nat} (h : k < 16) (h1 : (((⟨#[48, 49, 50, 51, 52, 53, 54, 55, 56, 57, 97, 98, 99, 100, 101, 102]⟩ : ByteArray)[k]'h).toNat : Int) ≠ c)
    (h2 : (((⟨#[48, 49, 50, 51, 52, 53, 54, 55, 56, 57, 65, 66, 67, 68, 69, 70]⟩ : ByteArray)[k]'h).toNat : Int) ≠ c) : hv c ≠ k := by
  rw [low_eq ⟨k, h⟩] at h1
  rw [upp_eq ⟨k, h⟩] at h2
  simp only at h1 h2
  unfold hv
  by_cases hk : k < 10
  · rw [if_pos hk] at h1 h2
    split <;> (try split) <;> (try split) <;> omega
  · rw [if_neg hk] at h1 h2
    split <;> (try split) <;> (try split) <;> omega

set_option maxHeartbeats 800000 in
theorem hv_any (c : Int) (w : World) :
    Calls Trym.prog 21 #[.int .u8 c] w fun e w' => e = .returned (.int .i64 (hv c)) ∧ w' = w := by
  have HB : Hid (-1 ≤ hv c ∧ hv c ≤ 15) := hv_bd c
  go_enter Trym.func21, Trym.ntmps21
  go_wp2
  go_loop [3] (fun i => ∃ k : Nat, k ≤ 16 ∧ i = .int .i64 k ∧ Hid (hv c = -1 ∨ (k : Int) ≤ hv c)) (fun i => 16 - (intOf i).toNat)
  case atStart => exact ⟨0, Nat.zero_le _, rfl, by have := HB.out; show _ ∨ _; omega⟩
  case round =>
    obtain ⟨k, hk, rfl, HR⟩ := hrel
    by_cases hlt : k < 16
    · by_cases hl : (((⟨#[48, 49, 50, 51, 52, 53, 54, 55, 56, 57, 97, 98, 99, 100, 101, 102]⟩ : ByteArray)[k]'hlt).toNat : Int) = c
      · have HV : Hid (hv c = k) := by show _ = _; rw [← hl]; exact low_hv k hlt
        have hl' : ((((⟨#[48, 49, 50, 51, 52, 53, 54, 55, 56, 57, 97, 98, 99, 100, 101, 102]⟩ : ByteArray)[k]'hlt).toNat : Int) == c) = true := by simp [hl]
        clear hl
        go_wp2
        go_ret
        exact ⟨ret_num HV.out.symm, rfl⟩
      · have hl' : ((((⟨#[48, 49, 50, 51, 52, 53, 54, 55, 56, 57, 97, 98, 99, 100, 101, 102]⟩ : ByteArray)[k]'hlt).toNat : Int) == c) = false := by simp [hl]
        by_cases hu : (((⟨#[48, 49, 50, 51, 52, 53, 54, 55, 56, 57, 65, 66, 67, 68, 69, 70]⟩ : ByteArray)[k]'hlt).toNat : Int) = c
        · have HV : Hid (hv c = k) := by show _ = _; rw [← hu]; exact upp_hv k hlt
          have hu' : ((((⟨#[48, 49, 50, 51, 52, 53, 54, 55, 56, 57, 65, 66, 67, 68, 69, 70]⟩ : ByteArray)[k]'hlt).toNat : Int) == c) = true := by simp [hu]
          clear hl hu
          go_wp2
          go_ret
          exact ⟨ret_num HV.out.symm, rfl⟩
        · have HV : Hid (hv c ≠ k) := hv_not hlt hl hu
          have hu' : ((((⟨#[48, 49, 50, 51, 52, 53, 54, 55, 56, 57, 65, 66, 67, 68, 69, 70]⟩ : ByteArray)[k]'hlt).toNat : Int) == c) = false := by simp [hu]
          clear hl hu
          go_wp2
          go_round
          case rel => exact ⟨k + 1, by omega, by go_num, by have := HR.out; have := HV.out; show _ ∨ _; omega⟩
          case measure => simp [intOf]; omega
    · go_wp2
      go_ret
      exact ⟨ret_num (by have := HR.out; have := HB.out; omega), rfl⟩

end Go.Proofs.Qxb6600311aMods
