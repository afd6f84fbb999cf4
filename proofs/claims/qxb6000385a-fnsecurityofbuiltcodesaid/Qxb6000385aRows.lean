/-
  No cell of these rows narrows 'for every input' (looked for: loops, veiled, ifaces, maps, wideKeys, modest, calm, conditions, laid).
  DERIVED. THE GIVEN ROWS OF THIS SEAT. 4 by the template 'for every input the law returns true; each argument reads behind the call as it read before'; 0 by the template 'total and deterministic' (their statements: Qxb6000385aTotals.lean).
  GIVEN WITH THE SEED: the statements are not yours to turn. If you find one false, say at which input.
  Laid BY PROGRAM, IN A SANDBOX (cutbox-rows.mjs): the forced cells as the released guide's own fill.sh prints them over the translation e8d06a2a5edb68d3… (all of the seat's roots in one cut). By AI agents, Wed Nov 11 2026. No macro, syntax, notation, axiom, sorry.
-/
import Derived.Test.Qxb6000385aChecked
import GoSem.Claim
import GoSem.ClaimJoined
import GoSem.ClaimMapViews
import Derived.JoinedTies
import Derived.KernelRfl
namespace Go.Proofs.Qxb6000385a
/- THE CELL 'sum', in the pinned program and in every row, IS THE sha256 OF THE DUMP (.gsa) THAT Qxb6000385aProg.lean LOADS. Nothing in Lean hashes anything: it is a label: what it is worth is what the hold of that sum in a sandbox is worth. -/
noncomputable def Try.pinned : Pinned := { name := "qxb6000385a", sum := "e8d06a2a5edb68d31778dc29edd77a3fae581c27890206eb2e5ed86e0a49a912", checked := Try.checked }
namespace Rows
def none {H : Type} : Left H := { results := [], args := [] }

/-- 'zzlaws_account_b1.FnParentOfChild': WHATEVER THE INPUT: true; the input reads as it did. -/
def fnParentOfChildSpec : ChangeSpec := { name := "fnParentOfChild", fn := fun _ => fun
  | [d1, d2] => { results := [.lit (.bool true)], args := [d1, d2] }
  | _ => none }
def fnParentOfChildRow : OpenClaim := { program := "qxb6000385a", sum := "e8d06a2a5edb68d31778dc29edd77a3fae581c27890206eb2e5ed86e0a49a912", func := "example.com/fundwarden/fundwarden/zzlaws_account_b1.FnParentOfChild", spec := "fnParentOfChild", apart := false }
def FnParentOfChildSaid : Prop := fnParentOfChildRow.holds Try.pinned (OpenSpec.ofChange fnParentOfChildSpec)

/-- ITS FALSE NEIGHBOUR: 'it returns false'. Refute it at one input. -/
def fnParentOfChildWrong : ChangeSpec := { name := "fnParentOfChild", fn := fun _ => fun
  | [d1, d2] => { results := [.lit (.bool false)], args := [d1, d2] }
  | _ => none }
def FnParentOfChildWrongFalsely : Prop := fnParentOfChildRow.holds Try.pinned (OpenSpec.ofChange fnParentOfChildWrong)

/-- 'zzlaws_account_b1.FnParentSplitsAtLastPoint': WHATEVER THE INPUT: true; the input reads as it did. -/
def fnParentSplitsAtLastPointSpec : ChangeSpec := { name := "fnParentSplitsAtLastPoint", fn := fun _ => fun
  | [d] => { results := [.lit (.bool true)], args := [d] }
  | _ => none }
def fnParentSplitsAtLastPointRow : OpenClaim := { program := "qxb6000385a", sum := "e8d06a2a5edb68d31778dc29edd77a3fae581c27890206eb2e5ed86e0a49a912", func := "example.com/fundwarden/fundwarden/zzlaws_account_b1.FnParentSplitsAtLastPoint", spec := "fnParentSplitsAtLastPoint", apart := false }
def FnParentSplitsAtLastPointSaid : Prop := fnParentSplitsAtLastPointRow.holds Try.pinned (OpenSpec.ofChange fnParentSplitsAtLastPointSpec)

/-- ITS FALSE NEIGHBOUR: 'it returns false'. Refute it at one input. -/
def fnParentSplitsAtLastPointWrong : ChangeSpec := { name := "fnParentSplitsAtLastPoint", fn := fun _ => fun
  | [d] => { results := [.lit (.bool false)], args := [d] }
  | _ => none }
def FnParentSplitsAtLastPointWrongFalsely : Prop := fnParentSplitsAtLastPointRow.holds Try.pinned (OpenSpec.ofChange fnParentSplitsAtLastPointWrong)

/-- 'zzlaws_account_b1.FnSecurityOfBuiltCode': WHATEVER THE INPUT: true; the input reads as it did. -/
def fnSecurityOfBuiltCodeSpec : ChangeSpec := { name := "fnSecurityOfBuiltCode", fn := fun _ => fun
  | [d1, d2, d3] => { results := [.lit (.bool true)], args := [d1, d2, d3] }
  | _ => none }
def fnSecurityOfBuiltCodeRow : OpenClaim := { program := "qxb6000385a", sum := "e8d06a2a5edb68d31778dc29edd77a3fae581c27890206eb2e5ed86e0a49a912", func := "example.com/fundwarden/fundwarden/zzlaws_account_b1.FnSecurityOfBuiltCode", spec := "fnSecurityOfBuiltCode", inPlace := ["internal/bytealg.IndexByteString", "internal/bytealg.IndexString"], unfollowed := true, recurses := true, named := ["internal/bytealg.MaxLen"], apart := false }
def FnSecurityOfBuiltCodeSaid : Prop := fnSecurityOfBuiltCodeRow.holds Try.pinned (OpenSpec.ofChange fnSecurityOfBuiltCodeSpec)

/-- ITS FALSE NEIGHBOUR: 'it returns false'. Refute it at one input. -/
def fnSecurityOfBuiltCodeWrong : ChangeSpec := { name := "fnSecurityOfBuiltCode", fn := fun _ => fun
  | [d1, d2, d3] => { results := [.lit (.bool false)], args := [d1, d2, d3] }
  | _ => none }
def FnSecurityOfBuiltCodeWrongFalsely : Prop := fnSecurityOfBuiltCodeRow.holds Try.pinned (OpenSpec.ofChange fnSecurityOfBuiltCodeWrong)

/-- 'zzlaws_account_b1.FnSecurityEndsCode': WHATEVER THE INPUT: true; the input reads as it did. -/
def fnSecurityEndsCodeSpec : ChangeSpec := { name := "fnSecurityEndsCode", fn := fun _ => fun
  | [d] => { results := [.lit (.bool true)], args := [d] }
  | _ => none }
def fnSecurityEndsCodeRow : OpenClaim := { program := "qxb6000385a", sum := "e8d06a2a5edb68d31778dc29edd77a3fae581c27890206eb2e5ed86e0a49a912", func := "example.com/fundwarden/fundwarden/zzlaws_account_b1.FnSecurityEndsCode", spec := "fnSecurityEndsCode", inPlace := ["internal/bytealg.IndexByteString", "internal/bytealg.IndexString"], unfollowed := true, recurses := true, named := ["internal/bytealg.MaxLen"], apart := false }
def FnSecurityEndsCodeSaid : Prop := fnSecurityEndsCodeRow.holds Try.pinned (OpenSpec.ofChange fnSecurityEndsCodeSpec)

/-- ITS FALSE NEIGHBOUR: 'it returns false'. Refute it at one input. -/
def fnSecurityEndsCodeWrong : ChangeSpec := { name := "fnSecurityEndsCode", fn := fun _ => fun
  | [d] => { results := [.lit (.bool false)], args := [d] }
  | _ => none }
def FnSecurityEndsCodeWrongFalsely : Prop := fnSecurityEndsCodeRow.holds Try.pinned (OpenSpec.ofChange fnSecurityEndsCodeWrong)

end Rows
end Go.Proofs.Qxb6000385a
