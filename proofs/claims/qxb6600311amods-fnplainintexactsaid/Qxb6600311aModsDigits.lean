/-
  THE WALKS OF plainDigits, ZZplainDigits, otlpB1AllDigits, otlpB1ValueByPlaces.
-/
import Derived.Test.Qxb6600311aModsProg
import Derived.Test.Qxb6600311aModsPlain
import Derived.WalkKit
namespace Go.Proofs.Qxb6600311aMods
open Go.RowKit
open Plain

/-- A byte row that can be read: where it has an element its address is plain and its cells hold the numbers. -/
def Rd (w : World) (a : Option Addr) (zs : List Int) : Prop :=
  0 < zs.length → ∃ b off, a = some ⟨b, off, none⟩ ∧ ∀ k, k < zs.length → w.cell? ⟨b, off + k, none⟩ = some (.int .u8 (nth zs k))
def Byt (zs : List Int) : Prop := ∀ k, 0 ≤ nth zs k ∧ nth zs k ≤ 255

theorem ret_pd {n m : Int} {b c : Bool} (h : n = m) (h' : b = c) : Ending.returned (.tuple #[.int .u64 n, .bool b]) = .returned (.tuple #[.int .u64 m, .bool c]) := by rw [h, h']

theorem accB_len0 {zs : List Int} (h : zs.length = 0) : accB zs = false := by simp [accB, h]
theorem accB_len20 {zs : List Int} (h : 19 < zs.length) : accB zs = false := by
  have : decide (zs.length ≤ 19) = false := by simp; omega
  simp [accB, this]
theorem accB_no {zs : List Int} (h : allDig zs = false) : accB zs = false := by simp [accB, h]
theorem accB_yes {zs : List Int} (h1 : 1 ≤ zs.length) (h2 : zs.length ≤ 19) (h : allDig zs = true) : accB zs = true := by simp [accB, h, h1, h2]
theorem pdN_no {zs : List Int} (h : accB zs = false) : pdN zs = 0 := by simp [pdN, h]
theorem pdN_yes {zs : List Int} (h : accB zs = true) : pdN zs = val zs := by simp [pdN, h]

theorem pd_short (a : Option Addr) (len cap : Nat) (zs : List Int) (w : World) (hz : zs.length = len) (h : len = 0) :
    Calls Trym.prog 27 #[.slice a len cap] w fun e w' => e = .returned (.tuple #[.int .u64 (pdN zs), .bool (accB zs)]) ∧ w' = w := by
  have h1 := accB_len0 (hz.trans h)
  rw [pdN_no h1, h1]
  clear h1 hz
  subst h
  go_enter Trym.func27, Trym.ntmps27
  go_wp2
  go_ret2
  exact ⟨rfl, rfl⟩

theorem pd_long (a : Option Addr) (len cap : Nat) (zs : List Int) (w : World) (hz : zs.length = len) (h : 19 < len) :
    Calls Trym.prog 27 #[.slice a len cap] w fun e w' => e = .returned (.tuple #[.int .u64 (pdN zs), .bool (accB zs)]) ∧ w' = w := by
  have h1 := accB_len20 (zs := zs) (by omega)
  rw [pdN_no h1, h1]
  clear h1 hz
  go_enter Trym.func27, Trym.ntmps27
  go_wp2
  go_ret2
  exact ⟨rfl, rfl⟩

theorem pd_mid (b off len cap : Nat) (zs : List Int) (w : World) (hz0 : zs.length = len) (h1 : 1 ≤ len) (h19 : len ≤ 19) (hb : Byt zs)
    (hc : ∀ k, k < len → w.cell? ⟨b, off + k, none⟩ = some (.int .u8 (nth zs k))) :
    Calls Trym.prog 27 #[.slice (some ⟨b, off, none⟩) len cap] w fun e w' => e = .returned (.tuple #[.int .u64 (pdN zs), .bool (accB zs)]) ∧ w' = w := by
  have hz : Hid (zs.length = len) := hz0
  clear hz0
  have HB : Hid (Byt zs) := hb
  clear hb
  have e0 : ((len : Int) == 0) = false := by simp; omega
  go_enter Trym.func27, Trym.ntmps27
  go_wp2
  go_loop [4, 17] (fun n i => ∃ k : Nat, k ≤ len ∧ i = .int .i64 k ∧ allDig (zs.take k) = true ∧ n = .int .u64 (val (zs.take k))) (fun _ i => len - (intOf i).toNat)
  case atStart => exact ⟨0, Nat.zero_le _, rfl, rfl, rfl⟩
  case round =>
    obtain ⟨k, hk, rfl, had, rfl⟩ := hrel
    have HA : Hid (allDig (zs.take k) = true) := had
    clear had
    by_cases hlt : k < len
    · have hcell := hc k hlt
      have hbk := HB.out k
      have hkz : k < zs.length := by have := hz.out; omega
      have hv := val_bd HA.out
      have hp : p10 (zs.take k).length ≤ p10 18 := p10_mono (by simp; omega)
      rw [p10_18] at hp
      have hv2 : val (zs.take k) < 1000000000000000000 := by omega
      have hv1 : 0 ≤ val (zs.take k) := hv.1
      have HV : Hid (val (zs.take (k + 1)) = val (zs.take k) * 10 + (nth zs k - 48)) := val_take_succ zs k hkz
      have HD := allDig_take_succ zs k hkz
      rw [HA.out, Bool.true_and] at HD
      have HD' : Hid (allDig (zs.take (k + 1)) = isDig (nth zs k)) := HD
      clear HD hv hp
      have HK : Hid (k < zs.length) := hkz
      clear hkz hc
      by_cases hd : 48 ≤ nth zs k ∧ nth zs k ≤ 57
      · obtain ⟨hd1, hd2⟩ := hd
        go_wp2
        go_round
        case rel => exact ⟨k + 1, by omega, by go_num, by rw [HD'.out]; exact (isDig_iff _).2 ⟨hd1, hd2⟩, by rw [HV.out]⟩
        case measure => simp [intOf]; omega
      · have HN : Hid (accB zs = false) := accB_no (not_allDig HK.out ((isDig_not _).2 (by omega)))
        by_cases hd1 : nth zs k < 48
        · go_wp2
          go_ret2
          exact ⟨ret_pd (pdN_no HN.out).symm HN.out.symm, rfl⟩
        · have hd2 : 57 < nth zs k := by omega
          go_wp2
          go_ret2
          exact ⟨ret_pd (pdN_no HN.out).symm HN.out.symm, rfl⟩
    · have HE : Hid (zs.take k = zs) := List.take_of_length_le (by have := hz.out; omega)
      have HY : Hid (accB zs = true) := accB_yes (by have := hz.out; omega) (by have := hz.out; omega) (by have := HA.out; rw [HE.out] at this; exact this)
      go_wp2
      go_ret2
      exact ⟨ret_pd (by rw [pdN_yes HY.out, HE.out]) HY.out.symm, rfl⟩

theorem pd_any (a : Option Addr) (cap : Nat) (zs : List Int) (w : World) (hb : Byt zs) (hr : Rd w a zs) :
    Calls Trym.prog 27 #[.slice a zs.length cap] w fun e w' => e = .returned (.tuple #[.int .u64 (pdN zs), .bool (accB zs)]) ∧ w' = w := by
  by_cases h0 : zs.length = 0
  · exact pd_short a _ cap zs w rfl h0
  · by_cases h19 : 19 < zs.length
    · exact pd_long a _ cap zs w rfl h19
    · obtain ⟨b, off, rfl, hc⟩ := hr (by omega)
      exact pd_mid b off _ cap zs w rfl (by omega) (by omega) hb hc

end Go.Proofs.Qxb6600311aMods
