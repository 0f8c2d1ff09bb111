/-
  THE CALLEES' CONTRACTS IN THE FORM THAT THE LAWS' WALKS TAKE THEM (the length a letter, the cases apart), AND WHAT A ROW OF BYTES THAT CAME IN GIVES.
-/
import Derived.Test.Qxb6600311aModsClone
import Derived.OpenShut
namespace Go.Proofs.Qxb6600311aMods
open Go.RowKit
open Plain

/-- A slice of bytes that came in, as the walks take it: its elements 'ys'. -/
theorem row_open {w : World} {a : Option Addr} {len cap : Nat} {zs : List Int}
    (h : (a = none ∧ len = 0 ∧ cap = 0 ∧ zs = []) ∨
      ∃ x, a = some x ∧ len ≤ cap ∧ cap ≤ maxLen ∧ zs.length = cap ∧ (∀ i, i < zs.length → w.cell? (x.add i) = some (.int .u8 (zs.getD i 0))) ∧ ∀ n ∈ zs, (Lit.int .u8 n).wf = true) :
    ∃ ys : List Int, ys.length = len ∧ Byt ys ∧ Rd w a ys ∧ (a = none → len = 0 ∧ cap = 0) ∧ len ≤ 9223372036854775807 := by
  rcases h with ⟨rfl, rfl, rfl, rfl⟩ | ⟨x, rfl, hlc, hcm, hz, hcell, hwf⟩
  · exact ⟨[], rfl, fun k => by simp [nth], fun h => by simp at h, fun _ => ⟨rfl, rfl⟩, by omega⟩
  · refine ⟨zs.take len, by simp; omega, fun k => ?_, fun h0 => ?_, fun h => (by cases h), (by unfold maxLen at hcm; omega)⟩
    · by_cases hk : k < (zs.take len).length
      · rw [nth_lt hk]
        have hm : (zs.take len)[k] ∈ zs := List.mem_of_mem_take (List.getElem_mem hk)
        have := hwf _ hm
        exact bounds_u8 this
      · have : nth (zs.take len) k = 0 := by
          simp only [nth, List.getD]
          rw [List.getElem?_eq_none (by omega)]; rfl
        omega
    · have hlen : (zs.take len).length = len := by simp; omega
      rw [hlen] at h0
      obtain ⟨b, off, spot⟩ := x
      have hspot : spot = none := by simpa [Addr.add] using World.cell?_spot (hcell 0 (by omega))
      subst hspot
      refine ⟨b, off, rfl, fun k hk => ?_⟩
      rw [hlen] at hk
      have := hcell k (by omega)
      rw [plain_add] at this
      rw [this]
      have e : nth (zs.take len) k = zs.getD k 0 := by
        simp [nth, List.getD, hk]
      rw [e]

theorem zpd_no (a : Option Addr) (len cap : Nat) (ys : List Int) (w : World) (hz : ys.length = len) (hb : Byt ys) (h : accB ys = false) (hr : Rd w a ys) :
    Calls Trym.prog 13 #[.slice a len cap] w fun e w' => e = .returned (.tuple #[.int .u64 0, .bool false]) ∧ w' = w := by
  subst hz
  have := zpd_any a cap ys w hb hr
  rw [pdN_no h, h] at this
  exact this
theorem zpd_yes (a : Option Addr) (len cap : Nat) (ys : List Int) (w : World) (hz : ys.length = len) (hb : Byt ys) (h : accB ys = true) (hr : Rd w a ys) :
    Calls Trym.prog 13 #[.slice a len cap] w fun e w' => e = .returned (.tuple #[.int .u64 (val ys), .bool true]) ∧ w' = w := by
  subst hz
  have := zpd_any a cap ys w hb hr
  rw [pdN_yes h, h] at this
  exact this
theorem ad_len (a : Option Addr) (len cap : Nat) (ys : List Int) (w : World) (v : Bool) (hz : ys.length = len) (hl : len ≤ 9223372036854775807) (hb : Byt ys) (h : allDig ys = v) (hr : Rd w a ys) :
    Calls Trym.prog 14 #[.slice a len cap] w fun e w' => e = .returned (.bool v) ∧ w' = w := by
  subst hz
  have := ad_any a cap ys w hl hb hr
  rw [h] at this
  exact this
theorem vp_len (a : Option Addr) (len cap : Nat) (ys : List Int) (w : World) (hz : ys.length = len) (h1 : 1 ≤ len) (hl : len ≤ 19) (had : allDig ys = true) (hr : Rd w a ys) :
    Calls Trym.prog 15 #[.slice a len cap] w fun e w' => e = .returned (.int .u64 (val ys)) ∧ w' = w := by
  subst hz
  exact vp_any a cap ys w h1 hl had hr
theorem clone_len (a : Option Addr) (len cap : Nat) (ys : List Int) (w : World) (hz : ys.length = len) (hl : len ≤ 1048576) (hn : a = none → len = 0 ∧ cap = 0) (hr : Rd w a ys) :
    Calls Trym.prog 12 #[.slice a len cap] w fun e w' => ∃ a' cap', e = .returned (.slice a' len cap') ∧ len ≤ cap' ∧ Hid (Rd w' a' ys) ∧ Hid (Below w.heap.size w w') := by
  subst hz
  exact clone_any a cap ys w hl hn hr

end Go.Proofs.Qxb6600311aMods
