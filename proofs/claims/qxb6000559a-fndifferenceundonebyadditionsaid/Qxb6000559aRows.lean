/-
  No cell of these rows narrows 'for every input' (looked for: loops, veiled, ifaces, maps, wideKeys, modest, calm, conditions, laid).
  DERIVED. THE GIVEN ROWS OF THIS SEAT. 8 by the template 'for every input the law returns true; each argument reads behind the call as it read before'; 0 by the template 'total and deterministic' (their statements: Qxb6000559aTotals.lean).
  GIVEN WITH THE SEED: the statements are not yours to turn. If you find one false, say at which input.
  Laid BY PROGRAM, IN A SANDBOX (cutbox-rows.mjs): the forced cells as the released guide's own fill.sh prints them over the translation b59519c6271b348f… (all of the seat's roots in one cut). By AI agents, Wed Nov 11 2026. No macro, syntax, notation, axiom, sorry.
-/
import Derived.Test.Qxb6000559aChecked
import GoSem.Claim
import GoSem.ClaimJoined
import GoSem.ClaimMapViews
import Derived.JoinedTies
import Derived.KernelRfl
namespace Go.Proofs.Qxb6000559a
/- THE CELL 'sum', in the pinned program and in every row, IS THE sha256 OF THE DUMP (.gsa) THAT Qxb6000559aProg.lean LOADS. Nothing in Lean hashes anything: it is a label: what it is worth is what the hold of that sum in a sandbox is worth. -/
noncomputable def Try.pinned : Pinned := { name := "qxb6000559a", sum := "b59519c6271b348feb65dcd5ee8d3e5991f8d18cf765930d572c40d9ed8dc003", checked := Try.checked }
namespace Rows
def none {H : Type} : Left H := { results := [], args := [] }

/-- 'zzlaws_pkg_number_b1.FnDigitsAgreesWithByteModel': WHATEVER THE INPUT: true; the input reads as it did. -/
def fnDigitsAgreesWithByteModelSpec : ChangeSpec := { name := "fnDigitsAgreesWithByteModel", fn := fun _ => fun
  | [d] => { results := [.lit (.bool true)], args := [d] }
  | _ => none }
def fnDigitsAgreesWithByteModelRow : OpenClaim := { program := "qxb6000559a", sum := "b59519c6271b348feb65dcd5ee8d3e5991f8d18cf765930d572c40d9ed8dc003", func := "example.com/tenderline/tenderline/zzlaws_pkg_number_b1.FnDigitsAgreesWithByteModel", spec := "fnDigitsAgreesWithByteModel", apart := false }
def FnDigitsAgreesWithByteModelSaid : Prop := fnDigitsAgreesWithByteModelRow.holds Try.pinned (OpenSpec.ofChange fnDigitsAgreesWithByteModelSpec)

/-- ITS FALSE NEIGHBOUR: 'it returns false'. Refute it at one input. -/
def fnDigitsAgreesWithByteModelWrong : ChangeSpec := { name := "fnDigitsAgreesWithByteModel", fn := fun _ => fun
  | [d] => { results := [.lit (.bool false)], args := [d] }
  | _ => none }
def FnDigitsAgreesWithByteModelWrongFalsely : Prop := fnDigitsAgreesWithByteModelRow.holds Try.pinned (OpenSpec.ofChange fnDigitsAgreesWithByteModelWrong)

/-- 'zzlaws_pkg_number_b1.FnDigitsOfConcatenation': WHATEVER THE INPUT: true; the input reads as it did. -/
def fnDigitsOfConcatenationSpec : ChangeSpec := { name := "fnDigitsOfConcatenation", fn := fun _ => fun
  | [d1, d2] => { results := [.lit (.bool true)], args := [d1, d2] }
  | _ => none }
def fnDigitsOfConcatenationRow : OpenClaim := { program := "qxb6000559a", sum := "b59519c6271b348feb65dcd5ee8d3e5991f8d18cf765930d572c40d9ed8dc003", func := "example.com/tenderline/tenderline/zzlaws_pkg_number_b1.FnDigitsOfConcatenation", spec := "fnDigitsOfConcatenation", apart := false }
def FnDigitsOfConcatenationSaid : Prop := fnDigitsOfConcatenationRow.holds Try.pinned (OpenSpec.ofChange fnDigitsOfConcatenationSpec)

/-- ITS FALSE NEIGHBOUR: 'it returns false'. Refute it at one input. -/
def fnDigitsOfConcatenationWrong : ChangeSpec := { name := "fnDigitsOfConcatenation", fn := fun _ => fun
  | [d1, d2] => { results := [.lit (.bool false)], args := [d1, d2] }
  | _ => none }
def FnDigitsOfConcatenationWrongFalsely : Prop := fnDigitsOfConcatenationRow.holds Try.pinned (OpenSpec.ofChange fnDigitsOfConcatenationWrong)

/-- 'zzlaws_pkg_number_b1.FnTrimIdempotent': WHATEVER THE INPUT: true; the input reads as it did. -/
def fnTrimIdempotentSpec : ChangeSpec := { name := "fnTrimIdempotent", fn := fun _ => fun
  | [d] => { results := [.lit (.bool true)], args := [d] }
  | _ => none }
def fnTrimIdempotentRow : OpenClaim := { program := "qxb6000559a", sum := "b59519c6271b348feb65dcd5ee8d3e5991f8d18cf765930d572c40d9ed8dc003", func := "example.com/tenderline/tenderline/zzlaws_pkg_number_b1.FnTrimIdempotent", spec := "fnTrimIdempotent", inPlace := ["internal/bytealg.IndexByteString"], apart := false }
def FnTrimIdempotentSaid : Prop := fnTrimIdempotentRow.holds Try.pinned (OpenSpec.ofChange fnTrimIdempotentSpec)

/-- ITS FALSE NEIGHBOUR: 'it returns false'. Refute it at one input. -/
def fnTrimIdempotentWrong : ChangeSpec := { name := "fnTrimIdempotent", fn := fun _ => fun
  | [d] => { results := [.lit (.bool false)], args := [d] }
  | _ => none }
def FnTrimIdempotentWrongFalsely : Prop := fnTrimIdempotentRow.holds Try.pinned (OpenSpec.ofChange fnTrimIdempotentWrong)

/-- 'zzlaws_pkg_number_b1.FnTrimCanonicalEqualValuePartOfInput': WHATEVER THE INPUT: true; the input reads as it did. -/
def fnTrimCanonicalEqualValuePartOfInputSpec : ChangeSpec := { name := "fnTrimCanonicalEqualValuePartOfInput", fn := fun _ => fun
  | [d] => { results := [.lit (.bool true)], args := [d] }
  | _ => none }
def fnTrimCanonicalEqualValuePartOfInputRow : OpenClaim := { program := "qxb6000559a", sum := "b59519c6271b348feb65dcd5ee8d3e5991f8d18cf765930d572c40d9ed8dc003", func := "example.com/tenderline/tenderline/zzlaws_pkg_number_b1.FnTrimCanonicalEqualValuePartOfInput", spec := "fnTrimCanonicalEqualValuePartOfInput", inPlace := ["internal/bytealg.IndexByteString"], apart := false }
def FnTrimCanonicalEqualValuePartOfInputSaid : Prop := fnTrimCanonicalEqualValuePartOfInputRow.holds Try.pinned (OpenSpec.ofChange fnTrimCanonicalEqualValuePartOfInputSpec)

/-- ITS FALSE NEIGHBOUR: 'it returns false'. Refute it at one input. -/
def fnTrimCanonicalEqualValuePartOfInputWrong : ChangeSpec := { name := "fnTrimCanonicalEqualValuePartOfInput", fn := fun _ => fun
  | [d] => { results := [.lit (.bool false)], args := [d] }
  | _ => none }
def FnTrimCanonicalEqualValuePartOfInputWrongFalsely : Prop := fnTrimCanonicalEqualValuePartOfInputRow.holds Try.pinned (OpenSpec.ofChange fnTrimCanonicalEqualValuePartOfInputWrong)

/-- 'zzlaws_pkg_number_b1.FnTrimIgnoresPaddingZeros': WHATEVER THE INPUT: true; the input reads as it did. -/
def fnTrimIgnoresPaddingZerosSpec : ChangeSpec := { name := "fnTrimIgnoresPaddingZeros", fn := fun _ => fun
  | [d1, d2, d3] => { results := [.lit (.bool true)], args := [d1, d2, d3] }
  | _ => none }
def fnTrimIgnoresPaddingZerosRow : OpenClaim := { program := "qxb6000559a", sum := "b59519c6271b348feb65dcd5ee8d3e5991f8d18cf765930d572c40d9ed8dc003", func := "example.com/tenderline/tenderline/zzlaws_pkg_number_b1.FnTrimIgnoresPaddingZeros", spec := "fnTrimIgnoresPaddingZeros", inPlace := ["internal/bytealg.IndexByteString"], apart := false }
def FnTrimIgnoresPaddingZerosSaid : Prop := fnTrimIgnoresPaddingZerosRow.holds Try.pinned (OpenSpec.ofChange fnTrimIgnoresPaddingZerosSpec)

/-- ITS FALSE NEIGHBOUR: 'it returns false'. Refute it at one input. -/
def fnTrimIgnoresPaddingZerosWrong : ChangeSpec := { name := "fnTrimIgnoresPaddingZeros", fn := fun _ => fun
  | [d1, d2, d3] => { results := [.lit (.bool false)], args := [d1, d2, d3] }
  | _ => none }
def FnTrimIgnoresPaddingZerosWrongFalsely : Prop := fnTrimIgnoresPaddingZerosRow.holds Try.pinned (OpenSpec.ofChange fnTrimIgnoresPaddingZerosWrong)

/-- 'zzlaws_pkg_number_b1.FnDifferenceUndoneByAddition': WHATEVER THE INPUT: true; the input reads as it did. -/
def fnDifferenceUndoneByAdditionSpec : ChangeSpec := { name := "fnDifferenceUndoneByAddition", fn := fun _ => fun
  | [d1, d2] => { results := [.lit (.bool true)], args := [d1, d2] }
  | _ => none }
def fnDifferenceUndoneByAdditionRow : OpenClaim := { program := "qxb6000559a", sum := "b59519c6271b348feb65dcd5ee8d3e5991f8d18cf765930d572c40d9ed8dc003", func := "example.com/tenderline/tenderline/zzlaws_pkg_number_b1.FnDifferenceUndoneByAddition", spec := "fnDifferenceUndoneByAddition", inPlace := ["internal/bytealg.IndexByteString", "internal/bytealg.IndexString", "internal/bytealg.MakeNoZero"], named := ["internal/bytealg.MaxLen"], apart := false }
def FnDifferenceUndoneByAdditionSaid : Prop := fnDifferenceUndoneByAdditionRow.holds Try.pinned (OpenSpec.ofChange fnDifferenceUndoneByAdditionSpec)

/-- ITS FALSE NEIGHBOUR: 'it returns false'. Refute it at one input. -/
def fnDifferenceUndoneByAdditionWrong : ChangeSpec := { name := "fnDifferenceUndoneByAddition", fn := fun _ => fun
  | [d1, d2] => { results := [.lit (.bool false)], args := [d1, d2] }
  | _ => none }
def FnDifferenceUndoneByAdditionWrongFalsely : Prop := fnDifferenceUndoneByAdditionRow.holds Try.pinned (OpenSpec.ofChange fnDifferenceUndoneByAdditionWrong)

/-- 'zzlaws_pkg_number_b1.FnDifferenceIdentities': WHATEVER THE INPUT: true; the input reads as it did. -/
def fnDifferenceIdentitiesSpec : ChangeSpec := { name := "fnDifferenceIdentities", fn := fun _ => fun
  | [d] => { results := [.lit (.bool true)], args := [d] }
  | _ => none }
def fnDifferenceIdentitiesRow : OpenClaim := { program := "qxb6000559a", sum := "b59519c6271b348feb65dcd5ee8d3e5991f8d18cf765930d572c40d9ed8dc003", func := "example.com/tenderline/tenderline/zzlaws_pkg_number_b1.FnDifferenceIdentities", spec := "fnDifferenceIdentities", inPlace := ["internal/bytealg.IndexByteString", "internal/bytealg.IndexString", "internal/bytealg.MakeNoZero"], named := ["internal/bytealg.MaxLen"], apart := false }
def FnDifferenceIdentitiesSaid : Prop := fnDifferenceIdentitiesRow.holds Try.pinned (OpenSpec.ofChange fnDifferenceIdentitiesSpec)

/-- ITS FALSE NEIGHBOUR: 'it returns false'. Refute it at one input. -/
def fnDifferenceIdentitiesWrong : ChangeSpec := { name := "fnDifferenceIdentities", fn := fun _ => fun
  | [d] => { results := [.lit (.bool false)], args := [d] }
  | _ => none }
def FnDifferenceIdentitiesWrongFalsely : Prop := fnDifferenceIdentitiesRow.holds Try.pinned (OpenSpec.ofChange fnDifferenceIdentitiesWrong)

/-- 'zzlaws_pkg_number_b1.FnDifferenceCanonicalAndAtMostMinuend': WHATEVER THE INPUT: true; the input reads as it did. -/
def fnDifferenceCanonicalAndAtMostMinuendSpec : ChangeSpec := { name := "fnDifferenceCanonicalAndAtMostMinuend", fn := fun _ => fun
  | [d1, d2] => { results := [.lit (.bool true)], args := [d1, d2] }
  | _ => none }
def fnDifferenceCanonicalAndAtMostMinuendRow : OpenClaim := { program := "qxb6000559a", sum := "b59519c6271b348feb65dcd5ee8d3e5991f8d18cf765930d572c40d9ed8dc003", func := "example.com/tenderline/tenderline/zzlaws_pkg_number_b1.FnDifferenceCanonicalAndAtMostMinuend", spec := "fnDifferenceCanonicalAndAtMostMinuend", inPlace := ["internal/bytealg.IndexByteString", "internal/bytealg.IndexString", "internal/bytealg.MakeNoZero"], named := ["internal/bytealg.MaxLen"], apart := false }
def FnDifferenceCanonicalAndAtMostMinuendSaid : Prop := fnDifferenceCanonicalAndAtMostMinuendRow.holds Try.pinned (OpenSpec.ofChange fnDifferenceCanonicalAndAtMostMinuendSpec)

/-- ITS FALSE NEIGHBOUR: 'it returns false'. Refute it at one input. -/
def fnDifferenceCanonicalAndAtMostMinuendWrong : ChangeSpec := { name := "fnDifferenceCanonicalAndAtMostMinuend", fn := fun _ => fun
  | [d1, d2] => { results := [.lit (.bool false)], args := [d1, d2] }
  | _ => none }
def FnDifferenceCanonicalAndAtMostMinuendWrongFalsely : Prop := fnDifferenceCanonicalAndAtMostMinuendRow.holds Try.pinned (OpenSpec.ofChange fnDifferenceCanonicalAndAtMostMinuendWrong)

end Rows
end Go.Proofs.Qxb6000559a
