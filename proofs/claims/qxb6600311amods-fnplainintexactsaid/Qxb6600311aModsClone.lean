/-
  THE WALK OF otlpB1Clone: a fresh copy.
-/
import Derived.Test.Qxb6600311aModsBytes
import Derived.Laws.CopyOwn
import Derived.WalkSpells
namespace Go.Proofs.Qxb6600311aMods
open Go.RowKit
open Plain

theorem info5 : (Trym.prog.info? 5).map (fun i => (i.zero, i.size, i.bytes)) = some (some (.int .u8 0), 1, 1) := by kernel_rfl
theorem size5 : (Trym.prog.info? 5).map (·.size) = some 1 := by kernel_rfl

def cellsOf (zs : List Int) : List Value := zs.map (Value.int .u8)
theorem length_cellsOf (zs : List Int) : (cellsOf zs).length = zs.length := by simp [cellsOf]
theorem cellsOf_get {zs : List Int} {j : Nat} {v : Value} (h : (cellsOf zs)[j]? = some v) : j < zs.length ∧ v = .int .u8 (nth zs j) := by
  simp only [cellsOf, List.getElem?_map, Option.map_eq_some_iff] at h
  obtain ⟨y, hy, rfl⟩ := h
  obtain ⟨hj, e⟩ := List.getElem?_eq_some_iff.1 hy
  exact ⟨hj, by rw [nth_lt hj, e]⟩
theorem cellsOf_one (zs : List Int) : ∀ v ∈ cellsOf zs, v.oneCell' = true := by
  intro v hv
  simp only [cellsOf, List.mem_map] at hv
  obtain ⟨y, _, rfl⟩ := hv
  rfl
theorem cellsOf_at {zs : List Int} {j : Nat} (h : j < zs.length) : (cellsOf zs)[j]? = some (.int .u8 (nth zs j)) := by
  rw [cellsOf, List.getElem?_map, List.getElem?_eq_getElem h, nth_lt h]; rfl

theorem own_block {w : World} {base g n cap : Nat} {xs : List Value} (h : w.ownsRow base 5 1 (.slice (some ⟨g, 0, none⟩) n cap) n xs) :
    ∃ cur : List Value, Hid (w.heap[g]? = some (.cells cur.toArray 5 (0, 0))) ∧ Hid (cur.length = cap) := by
  obtain ⟨_, h | ⟨g', cap', cur, e, _, hh, _, _, hsz, _⟩⟩ := h
  · simp at h
  · simp only [Value.slice.injEq, Option.some.injEq, Addr.mk.injEq] at e
    obtain ⟨⟨rfl, _⟩, _, rfl⟩ := e
    exact ⟨cur.toList, by show _ = _; simpa using hh, by show _ = _; simpa using hsz⟩

theorem cells_block {w : World} {g : Nat} {L : List Value} (h : w.heap[g]? = some (.cells L.toArray 5 (0, 0))) {k : Nat} {v : Value} (hk : L[k]? = some v) : w.cell? ⟨g, k, none⟩ = some v := by
  simp [World.cell?, h, hk]

theorem plain_add (b off i : Nat) : (⟨b, off, none⟩ : Addr).add i = ⟨b, off + i, none⟩ := by
  unfold Addr.add
  split <;> simp_all

theorem Rd.below {w w' : World} {a : Option Addr} {zs : List Int} (h : Rd w a zs) (hb : Below w.heap.size w w') : Rd w' a zs := by
  intro h0
  obtain ⟨b, off, rfl, hc⟩ := h h0
  exact ⟨b, off, rfl, fun k hk => cell_later hb (hc k hk)⟩

/-- What a copy out of such a row asks of its source. -/
theorem Rd.src {w w1 : World} {a : Option Addr} {zs : List Int} (h : Rd w a zs) (hb : Below w.heap.size w w1) (h0 : 0 < (cellsOf zs).length) :
    ∃ ad, a = some ad ∧ ∀ j v, (cellsOf zs)[j]? = some v → w1.cell? (ad.add j) = some v := by
  rw [length_cellsOf] at h0
  obtain ⟨b, off, rfl, hc⟩ := h h0
  refine ⟨_, rfl, fun j v hv => ?_⟩
  obtain ⟨hj, rfl⟩ := cellsOf_get hv
  rw [plain_add]
  exact cell_later hb (hc j hj)

/-- A guard for the builtin copy: 'with_reducible refine at_copy ?_' succeeds only where the next operation of the walk is a copy; it turns nothing. -/
theorem at_copy {P : Program} {ops : Array Oper} {Q : Exit → Act → World → Prop} {dst : Option Tmp} {args : Array Operand} {ts : Array TypeId} {ty : TypeId} {pos : String} {aft : Array Edge} {gd : Option (Nat × Bool)} {rest : List Oper} {a : Act} {w : World}
    (h : wpList P ops Q ({ dst := dst, op := .call { callee := .builtin .copy, args := args, argTypes := ts }, type := ty, pos := pos, after := aft, guard := gd } :: rest) a w) :
    wpList P ops Q ({ dst := dst, op := .call { callee := .builtin .copy, args := args, argTypes := ts }, type := ty, pos := pos, after := aft, guard := gd } :: rest) a w := h

theorem clone_nil (w : World) : Calls Trym.prog 12 #[.slice none 0 0] w fun e w' => e = .returned (.slice none 0 0) ∧ w' = w := by
  have hq := fun wx => Lib.run_eql_slice_nil (P := Trym.prog) wx 22 5 none 0 0 0 0 Trym.underlying22
  go_enter Trym.func12, Trym.ntmps12
  go_wp2
  go_ret
  exact ⟨rfl, rfl⟩

theorem clone_row (x : Addr) (len cap : Nat) (zs : List Int) (w : World) (hz0 : zs.length = len) (hl : len ≤ 1048576)
    (hr : Rd w (some x) zs) :
    Calls Trym.prog 12 #[.slice (some x) len cap] w fun e w' => ∃ g, e = .returned (.slice (some ⟨g, 0, none⟩) len len) ∧ (∀ k, k < len → w'.cell? ⟨g, 0 + k, none⟩ = some (.int .u8 (nth zs k))) ∧ Below w.heap.size w w' := by
  have hz : Hid (zs.length = len) := hz0
  clear hz0
  have HC : Hid (Rd w (some x) zs) := hr
  clear hr
  have hq := fun wx => Lib.run_eql_slice_nil (P := Trym.prog) wx 22 5 (some x) len cap 0 0 Trym.underlying22
  obtain ⟨i0, hi, hz0, hz1, hz2⟩ := info_parts info5
  go_enter Trym.func12, Trym.ntmps12
  go_wp2_with (first
    | (at_make; refine wpList_make_full _ rfl _ _ 22 rfl w.heap.size 5 i0 (.int .u8 0) 1 Trym.underlying22 hi hz0 hz1 .i64 .i64 _ _ len rfl rfl rfl rfl (by rw [hz2]; omega) (by unfold maxLen; omega) (Nat.le_refl _) ?_; intro w1 hown hgrow; obtain ⟨cur, HG, HL⟩ := own_block hown; have HB1 : Hid (Below w.heap.size w w1) := (Below.refl _ _).grown hgrow (Nat.le_refl _) (by intro k hk; cases hk); clear hown hgrow)
    | (with_reducible refine at_copy ?_; refine wpList_copy_splice rfl (.tmp 9) (.tmp 10) 22 22 rfl 5 Trym.underlying22 size5 _ _ len len len cap rfl rfl w.heap.size 0 cur 5 HG.out (cellsOf zs) (by rw [length_cellsOf, hz.out]; exact (Nat.min_self _).symm) (fun h0 => ⟨rfl, HC.out.src HB1.out h0⟩) (by rw [length_cellsOf, hz.out, HL.out, Nat.zero_add]; exact Nat.le_refl _) (cellsOf_one zs) w.heap.size w HB1.out (Nat.le_refl _) ?_))
  intro w2 HG2 hB2
  go_wp2
  go_ret
  refine ⟨w.heap.size, rfl, fun k hk => ?_, hB2⟩
  rw [Nat.zero_add]
  refine cells_block HG2.out ?_
  have e : splice cur 0 (cellsOf zs) = cellsOf zs := by
    rw [splice, List.drop_eq_nil_of_le (by rw [length_cellsOf, hz.out, HL.out]; omega)]; simp
  rw [e]
  exact cellsOf_at (by rw [hz.out]; exact hk)

theorem clone_any (a : Option Addr) (cap : Nat) (zs : List Int) (w : World) (hl : zs.length ≤ 1048576) (hn : a = none → zs.length = 0 ∧ cap = 0) (hr : Rd w a zs) :
    Calls Trym.prog 12 #[.slice a zs.length cap] w fun e w' => ∃ a' cap', e = .returned (.slice a' zs.length cap') ∧ zs.length ≤ cap' ∧ Rd w' a' zs ∧ Below w.heap.size w w' := by
  cases a with
  | none =>
    obtain ⟨e1, e2⟩ := hn rfl
    rw [e1, e2]
    refine (clone_nil w).mono ?_
    rintro e w' ⟨rfl, rfl⟩
    exact ⟨none, 0, rfl, Nat.le_refl _, fun h => by omega, Below.refl _ _⟩
  | some x =>
    refine (clone_row x _ cap zs w rfl hl hr).mono ?_
    rintro e w' ⟨g, rfl, hc, hb⟩
    exact ⟨_, _, rfl, Nat.le_refl _, fun _ => ⟨g, 0, rfl, hc⟩, hb⟩

end Go.Proofs.Qxb6600311aMods
