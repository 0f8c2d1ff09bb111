/-
  No cell of these rows narrows 'for every input' (looked for: loops, veiled, ifaces, maps, wideKeys, modest, calm, conditions, laid).
  DERIVED. THE GIVEN ROWS OF THIS SEAT. 8 by the template 'for every input the law returns true; each argument reads behind the call as it read before'; 0 by the template 'total and deterministic' (their statements: Qxb6600311aModsTotals.lean).
  GIVEN WITH THE SEED: the statements are not yours to turn. If you find one false, say at which input.
  Laid BY PROGRAM, IN A SANDBOX (cutbox-rows.mjs): the forced cells as the released guide's own fill.sh prints them over the translation 2fc6bd1b5235d00d… (all of the seat's roots in one cut). By AI agents, Wed Nov 11 2026. No macro, syntax, notation, axiom, sorry.
-/
import Derived.Test.Qxb6600311aModsChecked
import GoSem.Claim
import GoSem.ClaimJoined
import GoSem.ClaimMapViews
import Derived.JoinedTies
import Derived.KernelRfl
namespace Go.Proofs.Qxb6600311aMods
/- THE CELL 'sum', in the pinned program and in every row, IS THE sha256 OF THE DUMP (.gsa) THAT Qxb6600311aModsProg.lean LOADS. Nothing in Lean hashes anything: it is a label: what it is worth is what the hold of that sum in a sandbox is worth. -/
noncomputable def Trym.pinned : Pinned := { name := "qxb6600311amods", sum := "2fc6bd1b5235d00d4f75478ceb949af72a127717eee001787c41edc43e58180e", checked := Trym.checked }
namespace Rows
def none {H : Type} : Left H := { results := [], args := [] }

/-- 'zzlaws_internal_otlpjson_b1.FnPlainDigitsExact': WHATEVER THE INPUT: true; the input reads as it did. -/
def fnPlainDigitsExactSpec : ChangeSpec := { name := "fnPlainDigitsExact", fn := fun _ => fun
  | [d] => { results := [.lit (.bool true)], args := [d] }
  | _ => none }
def fnPlainDigitsExactRow : OpenClaim := { program := "qxb6600311amods", sum := "2fc6bd1b5235d00d4f75478ceb949af72a127717eee001787c41edc43e58180e", func := "example.com/tributary/tributary/zzlaws_internal_otlpjson_b1.FnPlainDigitsExact", spec := "fnPlainDigitsExact", make := .lifted ["publicsums"], apart := false }
def FnPlainDigitsExactSaid : Prop := fnPlainDigitsExactRow.holds Trym.pinned (OpenSpec.ofChange fnPlainDigitsExactSpec)

/-- ITS FALSE NEIGHBOUR: 'it returns false'. Refute it at one input. -/
def fnPlainDigitsExactWrong : ChangeSpec := { name := "fnPlainDigitsExact", fn := fun _ => fun
  | [d] => { results := [.lit (.bool false)], args := [d] }
  | _ => none }
def FnPlainDigitsExactWrongFalsely : Prop := fnPlainDigitsExactRow.holds Trym.pinned (OpenSpec.ofChange fnPlainDigitsExactWrong)

/-- 'zzlaws_internal_otlpjson_b1.FnPlainDigitsRoundTrip': WHATEVER THE INPUT: true; the input reads as it did. -/
def fnPlainDigitsRoundTripSpec : ChangeSpec := { name := "fnPlainDigitsRoundTrip", fn := fun _ => fun
  | [d1, d2] => { results := [.lit (.bool true)], args := [d1, d2] }
  | _ => none }
def fnPlainDigitsRoundTripRow : OpenClaim := { program := "qxb6600311amods", sum := "2fc6bd1b5235d00d4f75478ceb949af72a127717eee001787c41edc43e58180e", func := "example.com/tributary/tributary/zzlaws_internal_otlpjson_b1.FnPlainDigitsRoundTrip", spec := "fnPlainDigitsRoundTrip", make := .lifted ["publicsums"], apart := false }
def FnPlainDigitsRoundTripSaid : Prop := fnPlainDigitsRoundTripRow.holds Trym.pinned (OpenSpec.ofChange fnPlainDigitsRoundTripSpec)

/-- ITS FALSE NEIGHBOUR: 'it returns false'. Refute it at one input. -/
def fnPlainDigitsRoundTripWrong : ChangeSpec := { name := "fnPlainDigitsRoundTrip", fn := fun _ => fun
  | [d1, d2] => { results := [.lit (.bool false)], args := [d1, d2] }
  | _ => none }
def FnPlainDigitsRoundTripWrongFalsely : Prop := fnPlainDigitsRoundTripRow.holds Trym.pinned (OpenSpec.ofChange fnPlainDigitsRoundTripWrong)

/-- 'zzlaws_internal_otlpjson_b1.FnPlainDigitsOrder': WHATEVER THE INPUT: true; the input reads as it did. -/
def fnPlainDigitsOrderSpec : ChangeSpec := { name := "fnPlainDigitsOrder", fn := fun _ => fun
  | [d1, d2] => { results := [.lit (.bool true)], args := [d1, d2] }
  | _ => none }
def fnPlainDigitsOrderRow : OpenClaim := { program := "qxb6600311amods", sum := "2fc6bd1b5235d00d4f75478ceb949af72a127717eee001787c41edc43e58180e", func := "example.com/tributary/tributary/zzlaws_internal_otlpjson_b1.FnPlainDigitsOrder", spec := "fnPlainDigitsOrder", make := .lifted ["publicsums"], apart := false }
def FnPlainDigitsOrderSaid : Prop := fnPlainDigitsOrderRow.holds Trym.pinned (OpenSpec.ofChange fnPlainDigitsOrderSpec)

/-- ITS FALSE NEIGHBOUR: 'it returns false'. Refute it at one input. -/
def fnPlainDigitsOrderWrong : ChangeSpec := { name := "fnPlainDigitsOrder", fn := fun _ => fun
  | [d1, d2] => { results := [.lit (.bool false)], args := [d1, d2] }
  | _ => none }
def FnPlainDigitsOrderWrongFalsely : Prop := fnPlainDigitsOrderRow.holds Trym.pinned (OpenSpec.ofChange fnPlainDigitsOrderWrong)

/-- 'zzlaws_internal_otlpjson_b1.FnHex4Exact': WHATEVER THE INPUT: true; the input reads as it did. -/
def fnHex4ExactSpec : ChangeSpec := { name := "fnHex4Exact", fn := fun _ => fun
  | [d] => { results := [.lit (.bool true)], args := [d] }
  | _ => none }
def fnHex4ExactRow : OpenClaim := { program := "qxb6600311amods", sum := "2fc6bd1b5235d00d4f75478ceb949af72a127717eee001787c41edc43e58180e", func := "example.com/tributary/tributary/zzlaws_internal_otlpjson_b1.FnHex4Exact", spec := "fnHex4Exact", make := .lifted ["publicsums"], apart := false }
def FnHex4ExactSaid : Prop := fnHex4ExactRow.holds Trym.pinned (OpenSpec.ofChange fnHex4ExactSpec)

/-- ITS FALSE NEIGHBOUR: 'it returns false'. Refute it at one input. -/
def fnHex4ExactWrong : ChangeSpec := { name := "fnHex4Exact", fn := fun _ => fun
  | [d] => { results := [.lit (.bool false)], args := [d] }
  | _ => none }
def FnHex4ExactWrongFalsely : Prop := fnHex4ExactRow.holds Trym.pinned (OpenSpec.ofChange fnHex4ExactWrong)

/-- 'zzlaws_internal_otlpjson_b1.FnHex4RoundTrip': WHATEVER THE INPUT: true; the input reads as it did. -/
def fnHex4RoundTripSpec : ChangeSpec := { name := "fnHex4RoundTrip", fn := fun _ => fun
  | [d1, d2, d3] => { results := [.lit (.bool true)], args := [d1, d2, d3] }
  | _ => none }
def fnHex4RoundTripRow : OpenClaim := { program := "qxb6600311amods", sum := "2fc6bd1b5235d00d4f75478ceb949af72a127717eee001787c41edc43e58180e", func := "example.com/tributary/tributary/zzlaws_internal_otlpjson_b1.FnHex4RoundTrip", spec := "fnHex4RoundTrip", make := .lifted ["publicsums"], apart := false }
def FnHex4RoundTripSaid : Prop := fnHex4RoundTripRow.holds Trym.pinned (OpenSpec.ofChange fnHex4RoundTripSpec)

/-- ITS FALSE NEIGHBOUR: 'it returns false'. Refute it at one input. -/
def fnHex4RoundTripWrong : ChangeSpec := { name := "fnHex4RoundTrip", fn := fun _ => fun
  | [d1, d2, d3] => { results := [.lit (.bool false)], args := [d1, d2, d3] }
  | _ => none }
def FnHex4RoundTripWrongFalsely : Prop := fnHex4RoundTripRow.holds Trym.pinned (OpenSpec.ofChange fnHex4RoundTripWrong)

/-- 'zzlaws_internal_otlpjson_b1.FnPlainIntExact': WHATEVER THE INPUT: true; the input reads as it did. -/
def fnPlainIntExactSpec : ChangeSpec := { name := "fnPlainIntExact", fn := fun _ => fun
  | [d1, d2] => { results := [.lit (.bool true)], args := [d1, d2] }
  | _ => none }
def fnPlainIntExactRow : OpenClaim := { program := "qxb6600311amods", sum := "2fc6bd1b5235d00d4f75478ceb949af72a127717eee001787c41edc43e58180e", func := "example.com/tributary/tributary/zzlaws_internal_otlpjson_b1.FnPlainIntExact", spec := "fnPlainIntExact", make := .lifted ["publicsums"], apart := false }
def FnPlainIntExactSaid : Prop := fnPlainIntExactRow.holds Trym.pinned (OpenSpec.ofChange fnPlainIntExactSpec)

/-- ITS FALSE NEIGHBOUR: 'it returns false'. Refute it at one input. -/
def fnPlainIntExactWrong : ChangeSpec := { name := "fnPlainIntExact", fn := fun _ => fun
  | [d1, d2] => { results := [.lit (.bool false)], args := [d1, d2] }
  | _ => none }
def FnPlainIntExactWrongFalsely : Prop := fnPlainIntExactRow.holds Trym.pinned (OpenSpec.ofChange fnPlainIntExactWrong)

/-- 'zzlaws_internal_otlpjson_b1.FnPlainIntRoundTrip': WHATEVER THE INPUT: true; the input reads as it did. -/
def fnPlainIntRoundTripSpec : ChangeSpec := { name := "fnPlainIntRoundTrip", fn := fun _ => fun
  | [d1, d2] => { results := [.lit (.bool true)], args := [d1, d2] }
  | _ => none }
def fnPlainIntRoundTripRow : OpenClaim := { program := "qxb6600311amods", sum := "2fc6bd1b5235d00d4f75478ceb949af72a127717eee001787c41edc43e58180e", func := "example.com/tributary/tributary/zzlaws_internal_otlpjson_b1.FnPlainIntRoundTrip", spec := "fnPlainIntRoundTrip", make := .lifted ["publicsums"], apart := false }
def FnPlainIntRoundTripSaid : Prop := fnPlainIntRoundTripRow.holds Trym.pinned (OpenSpec.ofChange fnPlainIntRoundTripSpec)

/-- ITS FALSE NEIGHBOUR: 'it returns false'. Refute it at one input. -/
def fnPlainIntRoundTripWrong : ChangeSpec := { name := "fnPlainIntRoundTrip", fn := fun _ => fun
  | [d1, d2] => { results := [.lit (.bool false)], args := [d1, d2] }
  | _ => none }
def FnPlainIntRoundTripWrongFalsely : Prop := fnPlainIntRoundTripRow.holds Trym.pinned (OpenSpec.ofChange fnPlainIntRoundTripWrong)

/-- 'zzlaws_internal_otlpjson_b1.FnPlainIntWidening': WHATEVER THE INPUT: true; the input reads as it did. -/
def fnPlainIntWideningSpec : ChangeSpec := { name := "fnPlainIntWidening", fn := fun _ => fun
  | [d1, d2] => { results := [.lit (.bool true)], args := [d1, d2] }
  | _ => none }
def fnPlainIntWideningRow : OpenClaim := { program := "qxb6600311amods", sum := "2fc6bd1b5235d00d4f75478ceb949af72a127717eee001787c41edc43e58180e", func := "example.com/tributary/tributary/zzlaws_internal_otlpjson_b1.FnPlainIntWidening", spec := "fnPlainIntWidening", make := .lifted ["publicsums"], apart := false }
def FnPlainIntWideningSaid : Prop := fnPlainIntWideningRow.holds Trym.pinned (OpenSpec.ofChange fnPlainIntWideningSpec)

/-- ITS FALSE NEIGHBOUR: 'it returns false'. Refute it at one input. -/
def fnPlainIntWideningWrong : ChangeSpec := { name := "fnPlainIntWidening", fn := fun _ => fun
  | [d1, d2] => { results := [.lit (.bool false)], args := [d1, d2] }
  | _ => none }
def FnPlainIntWideningWrongFalsely : Prop := fnPlainIntWideningRow.holds Trym.pinned (OpenSpec.ofChange fnPlainIntWideningWrong)

end Rows
end Go.Proofs.Qxb6600311aMods
