/-
  THE WALK OF otlpB1Compare at two rows of one length.
-/
import Derived.Test.Qxb6600311aModsShared
import Derived.Deep.QuietTactic
import Derived.BigQuiet
import Derived.WalkSmall
namespace Go.Proofs.Qxb6600311aMods
open Go.RowKit
open Plain

set_option maxHeartbeats 800000 in
theorem cmp_row (b1 off1 cap1 b2 off2 cap2 len : Nat) (xs ys : List Int) (w : World) (hl : len ≤ 19) (hx0 : xs.length = len) (hy0 : ys.length = len)
    (h1 : ∀ k, k < len → w.cell? ⟨b1, off1 + k, none⟩ = some (.int .u8 (nth xs k))) (h2 : ∀ k, k < len → w.cell? ⟨b2, off2 + k, none⟩ = some (.int .u8 (nth ys k))) :
    Calls Trym.prog 18 #[.slice (some ⟨b1, off1, none⟩) len cap1, .slice (some ⟨b2, off2, none⟩) len cap2] w fun e w' => e = .returned (.int .i64 (cmp xs ys)) ∧ Below w.heap.size w w' := by
  have hx : Hid (xs.length = len) := hx0
  have hy : Hid (ys.length = len) := hy0
  clear hx0 hy0
  go_enter Trym.func18, Trym.ntmps18
  go_wp2
  go_loopw [6] (fun i wr => ∃ k : Nat, k ≤ len ∧ i = .int .i64 k ∧ Hid (cmp xs ys = cmp (xs.drop k) (ys.drop k)) ∧ Hid (Below w.heap.size w wr)) (fun i _ => len - (intOf i).toNat)
  case atStart => exact ⟨0, Nat.zero_le _, rfl, rfl, Below.refl _ _⟩
  case round =>
    obtain ⟨k, hk, rfl, HC, HB⟩ := hrel
    by_cases hlt : k < len
    · have hc1 := cell_later HB.out (h1 k hlt)
      have hc2 := cell_later HB.out (h2 k hlt)
      clear h1 h2
      have hki : (k : Int) < (len : Int) := by omega
      have HK1 : Hid (k < xs.length) := by have := hx.out; show _ < _; omega
      have HK2 : Hid (k < ys.length) := by have := hy.out; show _ < _; omega
      by_cases hxy : nth xs k < nth ys k
      · have HE : Hid (cmp xs ys = -1) := HC.out.trans (cmp_drop_lt xs ys k HK1.out HK2.out hxy)
        go_wp2
        go_quiet (fail)
        go_wp2
        go_ret
        exact ⟨ret_num HE.out.symm, below_drewN HB.out _⟩
      · by_cases hyx : nth ys k < nth xs k
        · have HE : Hid (cmp xs ys = 1) := HC.out.trans (cmp_drop_gt xs ys k HK1.out HK2.out hyx)
          go_wp2
          go_quiet (fail)
          go_wp2
          go_quiet (fail)
          go_wp2
          go_ret
          exact ⟨ret_num HE.out.symm, below_drewN (below_drewN HB.out _) _⟩
        · have HE : Hid (cmp xs ys = cmp (xs.drop (k + 1)) (ys.drop (k + 1))) := HC.out.trans (cmp_drop_eq xs ys k HK1.out HK2.out (by omega))
          go_wp2
          go_quiet (fail)
          go_wp2
          go_quiet (fail)
          go_wp2
          go_roundw
          case rel => exact ⟨k + 1, by omega, by go_num, HE, below_drewN HB.out _⟩
          case measure => simp [intOf]; omega
    · have HE : Hid (cmp xs ys = 0) := HC.out.trans (cmp_drop_end xs ys k (by have := hx.out; omega) (by have := hy.out; omega))
      go_wp2
      go_ret
      exact ⟨ret_num HE.out.symm, HB.out⟩

theorem cmp_any (a b : Option Addr) (cap1 cap2 len : Nat) (xs ys : List Int) (w : World) (h1 : 1 ≤ len) (hl : len ≤ 19) (hx : xs.length = len) (hy : ys.length = len) (hr1 : Rd w a xs) (hr2 : Rd w b ys) :
    Calls Trym.prog 18 #[.slice a len cap1, .slice b len cap2] w fun e w' => e = .returned (.int .i64 (cmp xs ys)) ∧ Hid (Below w.heap.size w w') := by
  obtain ⟨b1, off1, rfl, hc1⟩ := hr1 (by omega)
  obtain ⟨b2, off2, rfl, hc2⟩ := hr2 (by omega)
  rw [hx] at hc1
  rw [hy] at hc2
  exact cmp_row b1 off1 cap1 b2 off2 cap2 len xs ys w hl hx hy hc1 hc2

end Go.Proofs.Qxb6600311aMods
