/-
  No cell of these rows narrows 'for every input' (looked for: loops, veiled, ifaces, maps, wideKeys, modest, calm, conditions, laid).
  DERIVED. THE GIVEN ROWS OF THIS SEAT. 5 by the template 'for every input the law returns true; each argument reads behind the call as it read before'; 0 by the template 'total and deterministic' (their statements: Qxb6000591aTotals.lean).
  GIVEN WITH THE SEED: the statements are not yours to turn. If you find one false, say at which input.
  Laid BY PROGRAM, IN A SANDBOX (cutbox-rows.mjs): the forced cells as the released guide's own fill.sh prints them over the translation 634800d6046e7239… (all of the seat's roots in one cut). By AI agents, Wed Nov 11 2026. No macro, syntax, notation, axiom, sorry.
-/
import Derived.Test.Qxb6000591aChecked
import GoSem.Claim
import GoSem.ClaimJoined
import GoSem.ClaimMapViews
import Derived.JoinedTies
import Derived.KernelRfl
namespace Go.Proofs.Qxb6000591a
/- THE CELL 'sum', in the pinned program and in every row, IS THE sha256 OF THE DUMP (.gsa) THAT Qxb6000591aProg.lean LOADS. Nothing in Lean hashes anything: it is a label: what it is worth is what the hold of that sum in a sandbox is worth. -/
noncomputable def Try.pinned : Pinned := { name := "qxb6000591a", sum := "634800d6046e723906f15e6d0546de7b3cdb119a62671bf3f2062fadda40ed90", checked := Try.checked }
namespace Rows
def none {H : Type} : Left H := { results := [], args := [] }

/-- 'zzlaws_internal_config_b1.FnValidRealmMatchesAlphabet': WHATEVER THE INPUT: true; the input reads as it did. -/
def fnValidRealmMatchesAlphabetSpec : ChangeSpec := { name := "fnValidRealmMatchesAlphabet", fn := fun _ => fun
  | [d] => { results := [.lit (.bool true)], args := [d] }
  | _ => none }
def fnValidRealmMatchesAlphabetRow : OpenClaim := { program := "qxb6000591a", sum := "634800d6046e723906f15e6d0546de7b3cdb119a62671bf3f2062fadda40ed90", func := "example.com/relayframe/relayframe/zzlaws_internal_config_b1.FnValidRealmMatchesAlphabet", spec := "fnValidRealmMatchesAlphabet", apart := false }
def FnValidRealmMatchesAlphabetSaid : Prop := fnValidRealmMatchesAlphabetRow.holds Try.pinned (OpenSpec.ofChange fnValidRealmMatchesAlphabetSpec)

/-- ITS FALSE NEIGHBOUR: 'it returns false'. Refute it at one input. -/
def fnValidRealmMatchesAlphabetWrong : ChangeSpec := { name := "fnValidRealmMatchesAlphabet", fn := fun _ => fun
  | [d] => { results := [.lit (.bool false)], args := [d] }
  | _ => none }
def FnValidRealmMatchesAlphabetWrongFalsely : Prop := fnValidRealmMatchesAlphabetRow.holds Try.pinned (OpenSpec.ofChange fnValidRealmMatchesAlphabetWrong)

/-- 'zzlaws_internal_config_b1.FnValidRealmConcat': WHATEVER THE INPUT: true; the input reads as it did. -/
def fnValidRealmConcatSpec : ChangeSpec := { name := "fnValidRealmConcat", fn := fun _ => fun
  | [d1, d2] => { results := [.lit (.bool true)], args := [d1, d2] }
  | _ => none }
def fnValidRealmConcatRow : OpenClaim := { program := "qxb6000591a", sum := "634800d6046e723906f15e6d0546de7b3cdb119a62671bf3f2062fadda40ed90", func := "example.com/relayframe/relayframe/zzlaws_internal_config_b1.FnValidRealmConcat", spec := "fnValidRealmConcat", apart := false }
def FnValidRealmConcatSaid : Prop := fnValidRealmConcatRow.holds Try.pinned (OpenSpec.ofChange fnValidRealmConcatSpec)

/-- ITS FALSE NEIGHBOUR: 'it returns false'. Refute it at one input. -/
def fnValidRealmConcatWrong : ChangeSpec := { name := "fnValidRealmConcat", fn := fun _ => fun
  | [d1, d2] => { results := [.lit (.bool false)], args := [d1, d2] }
  | _ => none }
def FnValidRealmConcatWrongFalsely : Prop := fnValidRealmConcatRow.holds Try.pinned (OpenSpec.ofChange fnValidRealmConcatWrong)

/-- 'zzlaws_internal_config_b1.FnPositionMatchesScan': WHATEVER THE INPUT: true; the input reads as it did. -/
def fnPositionMatchesScanSpec : ChangeSpec := { name := "fnPositionMatchesScan", fn := fun _ => fun
  | [d1, d2] => { results := [.lit (.bool true)], args := [d1, d2] }
  | _ => none }
def fnPositionMatchesScanRow : OpenClaim := { program := "qxb6000591a", sum := "634800d6046e723906f15e6d0546de7b3cdb119a62671bf3f2062fadda40ed90", func := "example.com/relayframe/relayframe/zzlaws_internal_config_b1.FnPositionMatchesScan", spec := "fnPositionMatchesScan", inPlace := ["internal/bytealg.Count", "internal/bytealg.IndexByte", "internal/bytealg.Index"], named := ["internal/bytealg.MaxLen"], apart := false }
def FnPositionMatchesScanSaid : Prop := fnPositionMatchesScanRow.holds Try.pinned (OpenSpec.ofChange fnPositionMatchesScanSpec)

/-- ITS FALSE NEIGHBOUR: 'it returns false'. Refute it at one input. -/
def fnPositionMatchesScanWrong : ChangeSpec := { name := "fnPositionMatchesScan", fn := fun _ => fun
  | [d1, d2] => { results := [.lit (.bool false)], args := [d1, d2] }
  | _ => none }
def FnPositionMatchesScanWrongFalsely : Prop := fnPositionMatchesScanRow.holds Try.pinned (OpenSpec.ofChange fnPositionMatchesScanWrong)

/-- 'zzlaws_internal_config_b1.FnPositionClampsAndBounds': WHATEVER THE INPUT: true; the input reads as it did. -/
def fnPositionClampsAndBoundsSpec : ChangeSpec := { name := "fnPositionClampsAndBounds", fn := fun _ => fun
  | [d1, d2] => { results := [.lit (.bool true)], args := [d1, d2] }
  | _ => none }
def fnPositionClampsAndBoundsRow : OpenClaim := { program := "qxb6000591a", sum := "634800d6046e723906f15e6d0546de7b3cdb119a62671bf3f2062fadda40ed90", func := "example.com/relayframe/relayframe/zzlaws_internal_config_b1.FnPositionClampsAndBounds", spec := "fnPositionClampsAndBounds", inPlace := ["internal/bytealg.Count", "internal/bytealg.IndexByte", "internal/bytealg.Index"], named := ["internal/bytealg.MaxLen"], apart := false }
def FnPositionClampsAndBoundsSaid : Prop := fnPositionClampsAndBoundsRow.holds Try.pinned (OpenSpec.ofChange fnPositionClampsAndBoundsSpec)

/-- ITS FALSE NEIGHBOUR: 'it returns false'. Refute it at one input. -/
def fnPositionClampsAndBoundsWrong : ChangeSpec := { name := "fnPositionClampsAndBounds", fn := fun _ => fun
  | [d1, d2] => { results := [.lit (.bool false)], args := [d1, d2] }
  | _ => none }
def FnPositionClampsAndBoundsWrongFalsely : Prop := fnPositionClampsAndBoundsRow.holds Try.pinned (OpenSpec.ofChange fnPositionClampsAndBoundsWrong)

/-- 'zzlaws_internal_config_b1.FnPositionOrdered': WHATEVER THE INPUT: true; the input reads as it did. -/
def fnPositionOrderedSpec : ChangeSpec := { name := "fnPositionOrdered", fn := fun _ => fun
  | [d1, d2, d3] => { results := [.lit (.bool true)], args := [d1, d2, d3] }
  | _ => none }
def fnPositionOrderedRow : OpenClaim := { program := "qxb6000591a", sum := "634800d6046e723906f15e6d0546de7b3cdb119a62671bf3f2062fadda40ed90", func := "example.com/relayframe/relayframe/zzlaws_internal_config_b1.FnPositionOrdered", spec := "fnPositionOrdered", inPlace := ["internal/bytealg.Count", "internal/bytealg.IndexByte", "internal/bytealg.Index"], named := ["internal/bytealg.MaxLen"], apart := false }
def FnPositionOrderedSaid : Prop := fnPositionOrderedRow.holds Try.pinned (OpenSpec.ofChange fnPositionOrderedSpec)

/-- ITS FALSE NEIGHBOUR: 'it returns false'. Refute it at one input. -/
def fnPositionOrderedWrong : ChangeSpec := { name := "fnPositionOrdered", fn := fun _ => fun
  | [d1, d2, d3] => { results := [.lit (.bool false)], args := [d1, d2, d3] }
  | _ => none }
def FnPositionOrderedWrongFalsely : Prop := fnPositionOrderedRow.holds Try.pinned (OpenSpec.ofChange fnPositionOrderedWrong)

end Rows
end Go.Proofs.Qxb6000591a
