/-
  No cell of these rows narrows 'for every input' (looked for: loops, veiled, ifaces, maps, wideKeys, modest, calm, conditions, laid).
  DERIVED. THE GIVEN ROWS OF THIS SEAT. 2 by the template 'for every input the law returns true; each argument reads behind the call as it read before'; 0 by the template 'total and deterministic' (their statements: Qxb6602667aTotals.lean).
  GIVEN WITH THE SEED: the statements are not yours to turn. If you find one false, say at which input.
  Laid BY PROGRAM, IN A SANDBOX (cutbox-rows.mjs): the forced cells as the released guide's own fill.sh prints them over the translation ef8ab798e7ab61b9… (all of the seat's roots in one cut). By AI agents, Wed Nov 11 2026. No macro, syntax, notation, axiom, sorry.
-/
import Derived.Test.Qxb6602667aChecked
import GoSem.Claim
import GoSem.ClaimJoined
import GoSem.ClaimMapViews
import Derived.JoinedTies
import Derived.KernelRfl
namespace Go.Proofs.Qxb6602667a
/- THE CELL 'sum', in the pinned program and in every row, IS THE sha256 OF THE DUMP (.gsa) THAT Qxb6602667aProg.lean LOADS. Nothing in Lean hashes anything: it is a label: what it is worth is what the hold of that sum in a sandbox is worth. -/
noncomputable def Try.pinned : Pinned := { name := "qxb6602667a", sum := "ef8ab798e7ab61b95b566e55a2bed774af0962e72fd8c22ecf076bc6b5cc4695", checked := Try.checked }
namespace Rows
def none {H : Type} : Left H := { results := [], args := [] }

/-- 'zzlaws_root_b1.FnFindStartPointsMatchesWordLabels': WHATEVER THE INPUT: true; the input reads as it did. -/
def fnFindStartPointsMatchesWordLabelsSpec : ChangeSpec := { name := "fnFindStartPointsMatchesWordLabels", fn := fun _ => fun
  | [d] => { results := [.lit (.bool true)], args := [d] }
  | _ => none }
def fnFindStartPointsMatchesWordLabelsRow : OpenClaim := { program := "qxb6602667a", sum := "ef8ab798e7ab61b95b566e55a2bed774af0962e72fd8c22ecf076bc6b5cc4695", func := "example.com/portcullis/portcullis/zzlaws_root_b1.FnFindStartPointsMatchesWordLabels", spec := "fnFindStartPointsMatchesWordLabels", apart := false }
def FnFindStartPointsMatchesWordLabelsSaid : Prop := fnFindStartPointsMatchesWordLabelsRow.holds Try.pinned (OpenSpec.ofChange fnFindStartPointsMatchesWordLabelsSpec)

/-- ITS FALSE NEIGHBOUR: 'it returns false'. Refute it at one input. -/
def fnFindStartPointsMatchesWordLabelsWrong : ChangeSpec := { name := "fnFindStartPointsMatchesWordLabels", fn := fun _ => fun
  | [d] => { results := [.lit (.bool false)], args := [d] }
  | _ => none }
def FnFindStartPointsMatchesWordLabelsWrongFalsely : Prop := fnFindStartPointsMatchesWordLabelsRow.holds Try.pinned (OpenSpec.ofChange fnFindStartPointsMatchesWordLabelsWrong)

/-- 'zzlaws_root_b1.FnFindStartPointsIgnoresWordsAfterTheExpression': WHATEVER THE INPUT: true; the input reads as it did. -/
def fnFindStartPointsIgnoresWordsAfterTheExpressionSpec : ChangeSpec := { name := "fnFindStartPointsIgnoresWordsAfterTheExpression", fn := fun _ => fun
  | [d1, d2] => { results := [.lit (.bool true)], args := [d1, d2] }
  | _ => none }
def fnFindStartPointsIgnoresWordsAfterTheExpressionRow : OpenClaim := { program := "qxb6602667a", sum := "ef8ab798e7ab61b95b566e55a2bed774af0962e72fd8c22ecf076bc6b5cc4695", func := "example.com/portcullis/portcullis/zzlaws_root_b1.FnFindStartPointsIgnoresWordsAfterTheExpression", spec := "fnFindStartPointsIgnoresWordsAfterTheExpression", apart := false }
def FnFindStartPointsIgnoresWordsAfterTheExpressionSaid : Prop := fnFindStartPointsIgnoresWordsAfterTheExpressionRow.holds Try.pinned (OpenSpec.ofChange fnFindStartPointsIgnoresWordsAfterTheExpressionSpec)

/-- ITS FALSE NEIGHBOUR: 'it returns false'. Refute it at one input. -/
def fnFindStartPointsIgnoresWordsAfterTheExpressionWrong : ChangeSpec := { name := "fnFindStartPointsIgnoresWordsAfterTheExpression", fn := fun _ => fun
  | [d1, d2] => { results := [.lit (.bool false)], args := [d1, d2] }
  | _ => none }
def FnFindStartPointsIgnoresWordsAfterTheExpressionWrongFalsely : Prop := fnFindStartPointsIgnoresWordsAfterTheExpressionRow.holds Try.pinned (OpenSpec.ofChange fnFindStartPointsIgnoresWordsAfterTheExpressionWrong)

end Rows
end Go.Proofs.Qxb6602667a
