/-
  No cell of these rows narrows 'for every input' (looked for: loops, veiled, ifaces, maps, wideKeys, modest, calm, conditions, laid).
  DERIVED. THE GIVEN ROWS OF THIS SEAT. 6 by the template 'for every input the law returns true; each argument reads behind the call as it read before'; 0 by the template 'total and deterministic' (their statements: Qxb6600374aTotals.lean).
  GIVEN WITH THE SEED: the statements are not yours to turn. If you find one false, say at which input.
  Laid BY PROGRAM, IN A SANDBOX (cutbox-rows.mjs): the forced cells as the released guide's own fill.sh prints them over the translation 0414cbaf2a309271… (all of the seat's roots in one cut). By AI agents, Wed Nov 11 2026. No macro, syntax, notation, axiom, sorry.
-/
import Derived.Test.Qxb6600374aChecked
import GoSem.Claim
import GoSem.ClaimJoined
import GoSem.ClaimMapViews
import Derived.JoinedTies
import Derived.KernelRfl
namespace Go.Proofs.Qxb6600374a
/- THE CELL 'sum', in the pinned program and in every row, IS THE sha256 OF THE DUMP (.gsa) THAT Qxb6600374aProg.lean LOADS. Nothing in Lean hashes anything: it is a label: what it is worth is what the hold of that sum in a sandbox is worth. -/
noncomputable def Try.pinned : Pinned := { name := "qxb6600374a", sum := "0414cbaf2a3092719ba96cf07759b32ae8853f30e3e6469ca72e6725a2139c97", checked := Try.checked }
namespace Rows
def none {H : Type} : Left H := { results := [], args := [] }

/-- 'zzlaws_patch_b1.FnDependsSplitsOverConcatenation': WHATEVER THE INPUT: true; the input reads as it did. -/
def fnDependsSplitsOverConcatenationSpec : ChangeSpec := { name := "fnDependsSplitsOverConcatenation", fn := fun _ => fun
  | [d1, d2, d3, d4, d5, d6] => { results := [.lit (.bool true)], args := [d1, d2, d3, d4, d5, d6] }
  | _ => none }
def fnDependsSplitsOverConcatenationRow : OpenClaim := { program := "qxb6600374a", sum := "0414cbaf2a3092719ba96cf07759b32ae8853f30e3e6469ca72e6725a2139c97", func := "example.com/kelson/kelson/zzlaws_patch_b1.FnDependsSplitsOverConcatenation", spec := "fnDependsSplitsOverConcatenation", apart := false }
def FnDependsSplitsOverConcatenationSaid : Prop := fnDependsSplitsOverConcatenationRow.holds Try.pinned (OpenSpec.ofChange fnDependsSplitsOverConcatenationSpec)

/-- ITS FALSE NEIGHBOUR: 'it returns false'. Refute it at one input. -/
def fnDependsSplitsOverConcatenationWrong : ChangeSpec := { name := "fnDependsSplitsOverConcatenation", fn := fun _ => fun
  | [d1, d2, d3, d4, d5, d6] => { results := [.lit (.bool false)], args := [d1, d2, d3, d4, d5, d6] }
  | _ => none }
def FnDependsSplitsOverConcatenationWrongFalsely : Prop := fnDependsSplitsOverConcatenationRow.holds Try.pinned (OpenSpec.ofChange fnDependsSplitsOverConcatenationWrong)

/-- 'zzlaws_patch_b1.FnDependsStayingOnlyTakesAway': WHATEVER THE INPUT: true; the input reads as it did. -/
def fnDependsStayingOnlyTakesAwaySpec : ChangeSpec := { name := "fnDependsStayingOnlyTakesAway", fn := fun _ => fun
  | [d1, d2, d3, d4] => { results := [.lit (.bool true)], args := [d1, d2, d3, d4] }
  | _ => none }
def fnDependsStayingOnlyTakesAwayRow : OpenClaim := { program := "qxb6600374a", sum := "0414cbaf2a3092719ba96cf07759b32ae8853f30e3e6469ca72e6725a2139c97", func := "example.com/kelson/kelson/zzlaws_patch_b1.FnDependsStayingOnlyTakesAway", spec := "fnDependsStayingOnlyTakesAway", apart := false }
def FnDependsStayingOnlyTakesAwaySaid : Prop := fnDependsStayingOnlyTakesAwayRow.holds Try.pinned (OpenSpec.ofChange fnDependsStayingOnlyTakesAwaySpec)

/-- ITS FALSE NEIGHBOUR: 'it returns false'. Refute it at one input. -/
def fnDependsStayingOnlyTakesAwayWrong : ChangeSpec := { name := "fnDependsStayingOnlyTakesAway", fn := fun _ => fun
  | [d1, d2, d3, d4] => { results := [.lit (.bool false)], args := [d1, d2, d3, d4] }
  | _ => none }
def FnDependsStayingOnlyTakesAwayWrongFalsely : Prop := fnDependsStayingOnlyTakesAwayRow.holds Try.pinned (OpenSpec.ofChange fnDependsStayingOnlyTakesAwayWrong)

/-- 'zzlaws_patch_b1.FnAfterIsIdempotent': WHATEVER THE INPUT: true; the input reads as it did. -/
def fnAfterIsIdempotentSpec : ChangeSpec := { name := "fnAfterIsIdempotent", fn := fun _ => fun
  | [d1, d2, d3, d4] => { results := [.lit (.bool true)], args := [d1, d2, d3, d4] }
  | _ => none }
def fnAfterIsIdempotentRow : OpenClaim := { program := "qxb6600374a", sum := "0414cbaf2a3092719ba96cf07759b32ae8853f30e3e6469ca72e6725a2139c97", func := "example.com/kelson/kelson/zzlaws_patch_b1.FnAfterIsIdempotent", spec := "fnAfterIsIdempotent", apart := false }
def FnAfterIsIdempotentSaid : Prop := fnAfterIsIdempotentRow.holds Try.pinned (OpenSpec.ofChange fnAfterIsIdempotentSpec)

/-- ITS FALSE NEIGHBOUR: 'it returns false'. Refute it at one input. -/
def fnAfterIsIdempotentWrong : ChangeSpec := { name := "fnAfterIsIdempotent", fn := fun _ => fun
  | [d1, d2, d3, d4] => { results := [.lit (.bool false)], args := [d1, d2, d3, d4] }
  | _ => none }
def FnAfterIsIdempotentWrongFalsely : Prop := fnAfterIsIdempotentRow.holds Try.pinned (OpenSpec.ofChange fnAfterIsIdempotentWrong)

/-- 'zzlaws_patch_b1.FnAfterSplitsOverConcatenation': WHATEVER THE INPUT: true; the input reads as it did. -/
def fnAfterSplitsOverConcatenationSpec : ChangeSpec := { name := "fnAfterSplitsOverConcatenation", fn := fun _ => fun
  | [d1, d2, d3, d4, d5, d6] => { results := [.lit (.bool true)], args := [d1, d2, d3, d4, d5, d6] }
  | _ => none }
def fnAfterSplitsOverConcatenationRow : OpenClaim := { program := "qxb6600374a", sum := "0414cbaf2a3092719ba96cf07759b32ae8853f30e3e6469ca72e6725a2139c97", func := "example.com/kelson/kelson/zzlaws_patch_b1.FnAfterSplitsOverConcatenation", spec := "fnAfterSplitsOverConcatenation", apart := false }
def FnAfterSplitsOverConcatenationSaid : Prop := fnAfterSplitsOverConcatenationRow.holds Try.pinned (OpenSpec.ofChange fnAfterSplitsOverConcatenationSpec)

/-- ITS FALSE NEIGHBOUR: 'it returns false'. Refute it at one input. -/
def fnAfterSplitsOverConcatenationWrong : ChangeSpec := { name := "fnAfterSplitsOverConcatenation", fn := fun _ => fun
  | [d1, d2, d3, d4, d5, d6] => { results := [.lit (.bool false)], args := [d1, d2, d3, d4, d5, d6] }
  | _ => none }
def FnAfterSplitsOverConcatenationWrongFalsely : Prop := fnAfterSplitsOverConcatenationRow.holds Try.pinned (OpenSpec.ofChange fnAfterSplitsOverConcatenationWrong)

/-- 'zzlaws_patch_b1.FnIsIndexMatchesAutomaton': WHATEVER THE INPUT: true; the input reads as it did. -/
def fnIsIndexMatchesAutomatonSpec : ChangeSpec := { name := "fnIsIndexMatchesAutomaton", fn := fun _ => fun
  | [d] => { results := [.lit (.bool true)], args := [d] }
  | _ => none }
def fnIsIndexMatchesAutomatonRow : OpenClaim := { program := "qxb6600374a", sum := "0414cbaf2a3092719ba96cf07759b32ae8853f30e3e6469ca72e6725a2139c97", func := "example.com/kelson/kelson/zzlaws_patch_b1.FnIsIndexMatchesAutomaton", spec := "fnIsIndexMatchesAutomaton", apart := false }
def FnIsIndexMatchesAutomatonSaid : Prop := fnIsIndexMatchesAutomatonRow.holds Try.pinned (OpenSpec.ofChange fnIsIndexMatchesAutomatonSpec)

/-- ITS FALSE NEIGHBOUR: 'it returns false'. Refute it at one input. -/
def fnIsIndexMatchesAutomatonWrong : ChangeSpec := { name := "fnIsIndexMatchesAutomaton", fn := fun _ => fun
  | [d] => { results := [.lit (.bool false)], args := [d] }
  | _ => none }
def FnIsIndexMatchesAutomatonWrongFalsely : Prop := fnIsIndexMatchesAutomatonRow.holds Try.pinned (OpenSpec.ofChange fnIsIndexMatchesAutomatonWrong)

/-- 'zzlaws_patch_b1.FnIsIndexOnPaddedDecimal': WHATEVER THE INPUT: true; the input reads as it did. -/
def fnIsIndexOnPaddedDecimalSpec : ChangeSpec := { name := "fnIsIndexOnPaddedDecimal", fn := fun _ => fun
  | [d1, d2, d3, d4] => { results := [.lit (.bool true)], args := [d1, d2, d3, d4] }
  | _ => none }
def fnIsIndexOnPaddedDecimalRow : OpenClaim := { program := "qxb6600374a", sum := "0414cbaf2a3092719ba96cf07759b32ae8853f30e3e6469ca72e6725a2139c97", func := "example.com/kelson/kelson/zzlaws_patch_b1.FnIsIndexOnPaddedDecimal", spec := "fnIsIndexOnPaddedDecimal", apart := false }
def FnIsIndexOnPaddedDecimalSaid : Prop := fnIsIndexOnPaddedDecimalRow.holds Try.pinned (OpenSpec.ofChange fnIsIndexOnPaddedDecimalSpec)

/-- ITS FALSE NEIGHBOUR: 'it returns false'. Refute it at one input. -/
def fnIsIndexOnPaddedDecimalWrong : ChangeSpec := { name := "fnIsIndexOnPaddedDecimal", fn := fun _ => fun
  | [d1, d2, d3, d4] => { results := [.lit (.bool false)], args := [d1, d2, d3, d4] }
  | _ => none }
def FnIsIndexOnPaddedDecimalWrongFalsely : Prop := fnIsIndexOnPaddedDecimalRow.holds Try.pinned (OpenSpec.ofChange fnIsIndexOnPaddedDecimalWrong)

end Rows
end Go.Proofs.Qxb6600374a
