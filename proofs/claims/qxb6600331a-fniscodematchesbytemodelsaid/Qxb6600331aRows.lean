/-
  No cell of these rows narrows 'for every input' (looked for: loops, veiled, ifaces, maps, wideKeys, modest, calm, conditions, laid).
  DERIVED. THE GIVEN ROWS OF THIS SEAT. 3 by the template 'for every input the law returns true; each argument reads behind the call as it read before'; 0 by the template 'total and deterministic' (their statements: Qxb6600331aTotals.lean).
  GIVEN WITH THE SEED: the statements are not yours to turn. If you find one false, say at which input.
  Laid BY PROGRAM, IN A SANDBOX (cutbox-rows.mjs): the forced cells as the released guide's own fill.sh prints them over the translation 6fe057ffda13e7a3… (all of the seat's roots in one cut). By AI agents, Wed Nov 11 2026. No macro, syntax, notation, axiom, sorry.
-/
import Derived.Test.Qxb6600331aChecked
import GoSem.Claim
import GoSem.ClaimJoined
import GoSem.ClaimMapViews
import Derived.JoinedTies
import Derived.KernelRfl
namespace Go.Proofs.Qxb6600331a
/- THE CELL 'sum', in the pinned program and in every row, IS THE sha256 OF THE DUMP (.gsa) THAT Qxb6600331aProg.lean LOADS. Nothing in Lean hashes anything: it is a label: what it is worth is what the hold of that sum in a sandbox is worth. -/
noncomputable def Try.pinned : Pinned := { name := "qxb6600331a", sum := "6fe057ffda13e7a323f847d2388cfc24f73dc9c06763ea63f9b8b1d26ad0c57e", checked := Try.checked }
namespace Rows
def none {H : Type} : Left H := { results := [], args := [] }

/-- 'zzlaws_pkg_terms_b1.FnIsCodeMatchesByteModel': WHATEVER THE INPUT: true; the input reads as it did. -/
def fnIsCodeMatchesByteModelSpec : ChangeSpec := { name := "fnIsCodeMatchesByteModel", fn := fun _ => fun
  | [d1, d2, d3] => { results := [.lit (.bool true)], args := [d1, d2, d3] }
  | _ => none }
def fnIsCodeMatchesByteModelRow : OpenClaim := { program := "qxb6600331a", sum := "6fe057ffda13e7a323f847d2388cfc24f73dc9c06763ea63f9b8b1d26ad0c57e", func := "example.com/zhaomu/zhaomu/zzlaws_pkg_terms_b1.FnIsCodeMatchesByteModel", spec := "fnIsCodeMatchesByteModel", apart := false }
def FnIsCodeMatchesByteModelSaid : Prop := fnIsCodeMatchesByteModelRow.holds Try.pinned (OpenSpec.ofChange fnIsCodeMatchesByteModelSpec)

/-- ITS FALSE NEIGHBOUR: 'it returns false'. Refute it at one input. -/
def fnIsCodeMatchesByteModelWrong : ChangeSpec := { name := "fnIsCodeMatchesByteModel", fn := fun _ => fun
  | [d1, d2, d3] => { results := [.lit (.bool false)], args := [d1, d2, d3] }
  | _ => none }
def FnIsCodeMatchesByteModelWrongFalsely : Prop := fnIsCodeMatchesByteModelRow.holds Try.pinned (OpenSpec.ofChange fnIsCodeMatchesByteModelWrong)

/-- 'zzlaws_pkg_terms_b1.FnIsCodeConcatSplits': WHATEVER THE INPUT: true; the input reads as it did. -/
def fnIsCodeConcatSplitsSpec : ChangeSpec := { name := "fnIsCodeConcatSplits", fn := fun _ => fun
  | [d1, d2] => { results := [.lit (.bool true)], args := [d1, d2] }
  | _ => none }
def fnIsCodeConcatSplitsRow : OpenClaim := { program := "qxb6600331a", sum := "6fe057ffda13e7a323f847d2388cfc24f73dc9c06763ea63f9b8b1d26ad0c57e", func := "example.com/zhaomu/zhaomu/zzlaws_pkg_terms_b1.FnIsCodeConcatSplits", spec := "fnIsCodeConcatSplits", apart := false }
def FnIsCodeConcatSplitsSaid : Prop := fnIsCodeConcatSplitsRow.holds Try.pinned (OpenSpec.ofChange fnIsCodeConcatSplitsSpec)

/-- ITS FALSE NEIGHBOUR: 'it returns false'. Refute it at one input. -/
def fnIsCodeConcatSplitsWrong : ChangeSpec := { name := "fnIsCodeConcatSplits", fn := fun _ => fun
  | [d1, d2] => { results := [.lit (.bool false)], args := [d1, d2] }
  | _ => none }
def FnIsCodeConcatSplitsWrongFalsely : Prop := fnIsCodeConcatSplitsRow.holds Try.pinned (OpenSpec.ofChange fnIsCodeConcatSplitsWrong)

/-- 'zzlaws_pkg_terms_b1.FnGivesOverConcat': WHATEVER THE INPUT: true; the input reads as it did. -/
def fnGivesOverConcatSpec : ChangeSpec := { name := "fnGivesOverConcat", fn := fun _ => fun
  | [d1, d2, d3, d4] => { results := [.lit (.bool true)], args := [d1, d2, d3, d4] }
  | _ => none }
def fnGivesOverConcatRow : OpenClaim := { program := "qxb6600331a", sum := "6fe057ffda13e7a323f847d2388cfc24f73dc9c06763ea63f9b8b1d26ad0c57e", func := "example.com/zhaomu/zhaomu/zzlaws_pkg_terms_b1.FnGivesOverConcat", spec := "fnGivesOverConcat", apart := false }
def FnGivesOverConcatSaid : Prop := fnGivesOverConcatRow.holds Try.pinned (OpenSpec.ofChange fnGivesOverConcatSpec)

/-- ITS FALSE NEIGHBOUR: 'it returns false'. Refute it at one input. -/
def fnGivesOverConcatWrong : ChangeSpec := { name := "fnGivesOverConcat", fn := fun _ => fun
  | [d1, d2, d3, d4] => { results := [.lit (.bool false)], args := [d1, d2, d3, d4] }
  | _ => none }
def FnGivesOverConcatWrongFalsely : Prop := fnGivesOverConcatRow.holds Try.pinned (OpenSpec.ofChange fnGivesOverConcatWrong)

end Rows
end Go.Proofs.Qxb6600331a
