/-
  No cell of these rows narrows 'for every input' (looked for: loops, veiled, ifaces, maps, wideKeys, modest, calm, conditions, laid).
  DERIVED. THE GIVEN ROWS OF THIS SEAT. 6 by the template 'for every input the law returns true; each argument reads behind the call as it read before'; 0 by the template 'total and deterministic' (their statements: Qxb6001223aTotals.lean).
  GIVEN WITH THE SEED: the statements are not yours to turn. If you find one false, say at which input.
  Laid BY PROGRAM, IN A SANDBOX (cutbox-rows.mjs): the forced cells as the released guide's own fill.sh prints them over the translation cf93e0b5a9b794ac… (all of the seat's roots in one cut). By AI agents, Wed Nov 11 2026. No macro, syntax, notation, axiom, sorry.
-/
import Derived.Test.Qxb6001223aChecked
import GoSem.Claim
import GoSem.ClaimJoined
import GoSem.ClaimMapViews
import Derived.JoinedTies
import Derived.KernelRfl
namespace Go.Proofs.Qxb6001223a
/- THE CELL 'sum', in the pinned program and in every row, IS THE sha256 OF THE DUMP (.gsa) THAT Qxb6001223aProg.lean LOADS. Nothing in Lean hashes anything: it is a label: what it is worth is what the hold of that sum in a sandbox is worth. -/
noncomputable def Try.pinned : Pinned := { name := "qxb6001223a", sum := "cf93e0b5a9b794acc75e304d8b4429d9a4bb4e34e58c5b1f865f38a8ec3104b7", checked := Try.checked }
namespace Rows
def none {H : Type} : Left H := { results := [], args := [] }

/-- 'zzlaws_internal_jsonobject_b1.FnPlainStringRoundTrip': WHATEVER THE INPUT: true; the input reads as it did. -/
def fnPlainStringRoundTripSpec : ChangeSpec := { name := "fnPlainStringRoundTrip", fn := fun _ => fun
  | [d1, d2, d3] => { results := [.lit (.bool true)], args := [d1, d2, d3] }
  | _ => none }
def fnPlainStringRoundTripRow : OpenClaim := { program := "qxb6001223a", sum := "cf93e0b5a9b794acc75e304d8b4429d9a4bb4e34e58c5b1f865f38a8ec3104b7", func := "example.com/kinkline/kinkline/zzlaws_internal_jsonobject_b1.FnPlainStringRoundTrip", spec := "fnPlainStringRoundTrip", apart := false }
def FnPlainStringRoundTripSaid : Prop := fnPlainStringRoundTripRow.holds Try.pinned (OpenSpec.ofChange fnPlainStringRoundTripSpec)

/-- ITS FALSE NEIGHBOUR: 'it returns false'. Refute it at one input. -/
def fnPlainStringRoundTripWrong : ChangeSpec := { name := "fnPlainStringRoundTrip", fn := fun _ => fun
  | [d1, d2, d3] => { results := [.lit (.bool false)], args := [d1, d2, d3] }
  | _ => none }
def FnPlainStringRoundTripWrongFalsely : Prop := fnPlainStringRoundTripRow.holds Try.pinned (OpenSpec.ofChange fnPlainStringRoundTripWrong)

/-- 'zzlaws_internal_jsonobject_b1.FnPlainStringRefusesBadOrOpen': WHATEVER THE INPUT: true; the input reads as it did. -/
def fnPlainStringRefusesBadOrOpenSpec : ChangeSpec := { name := "fnPlainStringRefusesBadOrOpen", fn := fun _ => fun
  | [d1, d2, d3, d4] => { results := [.lit (.bool true)], args := [d1, d2, d3, d4] }
  | _ => none }
def fnPlainStringRefusesBadOrOpenRow : OpenClaim := { program := "qxb6001223a", sum := "cf93e0b5a9b794acc75e304d8b4429d9a4bb4e34e58c5b1f865f38a8ec3104b7", func := "example.com/kinkline/kinkline/zzlaws_internal_jsonobject_b1.FnPlainStringRefusesBadOrOpen", spec := "fnPlainStringRefusesBadOrOpen", apart := false }
def FnPlainStringRefusesBadOrOpenSaid : Prop := fnPlainStringRefusesBadOrOpenRow.holds Try.pinned (OpenSpec.ofChange fnPlainStringRefusesBadOrOpenSpec)

/-- ITS FALSE NEIGHBOUR: 'it returns false'. Refute it at one input. -/
def fnPlainStringRefusesBadOrOpenWrong : ChangeSpec := { name := "fnPlainStringRefusesBadOrOpen", fn := fun _ => fun
  | [d1, d2, d3, d4] => { results := [.lit (.bool false)], args := [d1, d2, d3, d4] }
  | _ => none }
def FnPlainStringRefusesBadOrOpenWrongFalsely : Prop := fnPlainStringRefusesBadOrOpenRow.holds Try.pinned (OpenSpec.ofChange fnPlainStringRefusesBadOrOpenWrong)

/-- 'zzlaws_internal_jsonobject_b1.FnPlainStringSoundAndLocal': WHATEVER THE INPUT: true; the input reads as it did. -/
def fnPlainStringSoundAndLocalSpec : ChangeSpec := { name := "fnPlainStringSoundAndLocal", fn := fun _ => fun
  | [d1, d2, d3] => { results := [.lit (.bool true)], args := [d1, d2, d3] }
  | _ => none }
def fnPlainStringSoundAndLocalRow : OpenClaim := { program := "qxb6001223a", sum := "cf93e0b5a9b794acc75e304d8b4429d9a4bb4e34e58c5b1f865f38a8ec3104b7", func := "example.com/kinkline/kinkline/zzlaws_internal_jsonobject_b1.FnPlainStringSoundAndLocal", spec := "fnPlainStringSoundAndLocal", apart := false }
def FnPlainStringSoundAndLocalSaid : Prop := fnPlainStringSoundAndLocalRow.holds Try.pinned (OpenSpec.ofChange fnPlainStringSoundAndLocalSpec)

/-- ITS FALSE NEIGHBOUR: 'it returns false'. Refute it at one input. -/
def fnPlainStringSoundAndLocalWrong : ChangeSpec := { name := "fnPlainStringSoundAndLocal", fn := fun _ => fun
  | [d1, d2, d3] => { results := [.lit (.bool false)], args := [d1, d2, d3] }
  | _ => none }
def FnPlainStringSoundAndLocalWrongFalsely : Prop := fnPlainStringSoundAndLocalRow.holds Try.pinned (OpenSpec.ofChange fnPlainStringSoundAndLocalWrong)

/-- 'zzlaws_internal_jsonobject_b1.FnPlainValueStringAgreesWithPlainString': WHATEVER THE INPUT: true; the input reads as it did. -/
def fnPlainValueStringAgreesWithPlainStringSpec : ChangeSpec := { name := "fnPlainValueStringAgreesWithPlainString", fn := fun _ => fun
  | [d1, d2] => { results := [.lit (.bool true)], args := [d1, d2] }
  | _ => none }
def fnPlainValueStringAgreesWithPlainStringRow : OpenClaim := { program := "qxb6001223a", sum := "cf93e0b5a9b794acc75e304d8b4429d9a4bb4e34e58c5b1f865f38a8ec3104b7", func := "example.com/kinkline/kinkline/zzlaws_internal_jsonobject_b1.FnPlainValueStringAgreesWithPlainString", spec := "fnPlainValueStringAgreesWithPlainString", apart := false }
def FnPlainValueStringAgreesWithPlainStringSaid : Prop := fnPlainValueStringAgreesWithPlainStringRow.holds Try.pinned (OpenSpec.ofChange fnPlainValueStringAgreesWithPlainStringSpec)

/-- ITS FALSE NEIGHBOUR: 'it returns false'. Refute it at one input. -/
def fnPlainValueStringAgreesWithPlainStringWrong : ChangeSpec := { name := "fnPlainValueStringAgreesWithPlainString", fn := fun _ => fun
  | [d1, d2] => { results := [.lit (.bool false)], args := [d1, d2] }
  | _ => none }
def FnPlainValueStringAgreesWithPlainStringWrongFalsely : Prop := fnPlainValueStringAgreesWithPlainStringRow.holds Try.pinned (OpenSpec.ofChange fnPlainValueStringAgreesWithPlainStringWrong)

/-- 'zzlaws_internal_jsonobject_b1.FnPlainValueDecimal': WHATEVER THE INPUT: true; the input reads as it did. -/
def fnPlainValueDecimalSpec : ChangeSpec := { name := "fnPlainValueDecimal", fn := fun _ => fun
  | [d1, d2, d3] => { results := [.lit (.bool true)], args := [d1, d2, d3] }
  | _ => none }
def fnPlainValueDecimalRow : OpenClaim := { program := "qxb6001223a", sum := "cf93e0b5a9b794acc75e304d8b4429d9a4bb4e34e58c5b1f865f38a8ec3104b7", func := "example.com/kinkline/kinkline/zzlaws_internal_jsonobject_b1.FnPlainValueDecimal", spec := "fnPlainValueDecimal", apart := false }
def FnPlainValueDecimalSaid : Prop := fnPlainValueDecimalRow.holds Try.pinned (OpenSpec.ofChange fnPlainValueDecimalSpec)

/-- ITS FALSE NEIGHBOUR: 'it returns false'. Refute it at one input. -/
def fnPlainValueDecimalWrong : ChangeSpec := { name := "fnPlainValueDecimal", fn := fun _ => fun
  | [d1, d2, d3] => { results := [.lit (.bool false)], args := [d1, d2, d3] }
  | _ => none }
def FnPlainValueDecimalWrongFalsely : Prop := fnPlainValueDecimalRow.holds Try.pinned (OpenSpec.ofChange fnPlainValueDecimalWrong)

/-- 'zzlaws_internal_jsonobject_b1.FnPlainValueLiteral': WHATEVER THE INPUT: true; the input reads as it did. -/
def fnPlainValueLiteralSpec : ChangeSpec := { name := "fnPlainValueLiteral", fn := fun _ => fun
  | [d1, d2, d3] => { results := [.lit (.bool true)], args := [d1, d2, d3] }
  | _ => none }
def fnPlainValueLiteralRow : OpenClaim := { program := "qxb6001223a", sum := "cf93e0b5a9b794acc75e304d8b4429d9a4bb4e34e58c5b1f865f38a8ec3104b7", func := "example.com/kinkline/kinkline/zzlaws_internal_jsonobject_b1.FnPlainValueLiteral", spec := "fnPlainValueLiteral", apart := false }
def FnPlainValueLiteralSaid : Prop := fnPlainValueLiteralRow.holds Try.pinned (OpenSpec.ofChange fnPlainValueLiteralSpec)

/-- ITS FALSE NEIGHBOUR: 'it returns false'. Refute it at one input. -/
def fnPlainValueLiteralWrong : ChangeSpec := { name := "fnPlainValueLiteral", fn := fun _ => fun
  | [d1, d2, d3] => { results := [.lit (.bool false)], args := [d1, d2, d3] }
  | _ => none }
def FnPlainValueLiteralWrongFalsely : Prop := fnPlainValueLiteralRow.holds Try.pinned (OpenSpec.ofChange fnPlainValueLiteralWrong)

end Rows
end Go.Proofs.Qxb6001223a
