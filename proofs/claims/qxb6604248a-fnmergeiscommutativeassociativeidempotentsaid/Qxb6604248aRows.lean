/-
  No cell of these rows narrows 'for every input' (looked for: loops, veiled, ifaces, maps, wideKeys, modest, calm, conditions, laid).
  DERIVED. THE GIVEN ROWS OF THIS SEAT. 6 by the template 'for every input the law returns true; each argument reads behind the call as it read before'; 0 by the template 'total and deterministic' (their statements: Qxb6604248aTotals.lean).
  GIVEN WITH THE SEED: the statements are not yours to turn. If you find one false, say at which input.
  Laid BY PROGRAM, IN A SANDBOX (cutbox-rows.mjs): the forced cells as the released guide's own fill.sh prints them over the translation 487c477f98105a67… (all of the seat's roots in one cut). By AI agents, Wed Nov 11 2026. No macro, syntax, notation, axiom, sorry.
-/
import Derived.Test.Qxb6604248aChecked
import GoSem.Claim
import GoSem.ClaimJoined
import GoSem.ClaimMapViews
import Derived.JoinedTies
import Derived.KernelRfl
namespace Go.Proofs.Qxb6604248a
/- THE CELL 'sum', in the pinned program and in every row, IS THE sha256 OF THE DUMP (.gsa) THAT Qxb6604248aProg.lean LOADS. Nothing in Lean hashes anything: it is a label: what it is worth is what the hold of that sum in a sandbox is worth. -/
noncomputable def Try.pinned : Pinned := { name := "qxb6604248a", sum := "487c477f98105a677681f48c93a64a4f54e9ac5a6de8da887bd6ef6b19856c93", checked := Try.checked }
namespace Rows
def none {H : Type} : Left H := { results := [], args := [] }

/-- 'zzlaws_root_b1.FnCompareMatchesPointwiseOrder': WHATEVER THE INPUT: true; the input reads as it did. -/
def fnCompareMatchesPointwiseOrderSpec : ChangeSpec := { name := "fnCompareMatchesPointwiseOrder", fn := fun _ => fun
  | [d1, d2, d3, d4] => { results := [.lit (.bool true)], args := [d1, d2, d3, d4] }
  | _ => none }
def fnCompareMatchesPointwiseOrderRow : OpenClaim := { program := "qxb6604248a", sum := "487c477f98105a677681f48c93a64a4f54e9ac5a6de8da887bd6ef6b19856c93", func := "example.com/antecede/antecede/zzlaws_root_b1.FnCompareMatchesPointwiseOrder", spec := "fnCompareMatchesPointwiseOrder", apart := false }
def FnCompareMatchesPointwiseOrderSaid : Prop := fnCompareMatchesPointwiseOrderRow.holds Try.pinned (OpenSpec.ofChange fnCompareMatchesPointwiseOrderSpec)

/-- ITS FALSE NEIGHBOUR: 'it returns false'. Refute it at one input. -/
def fnCompareMatchesPointwiseOrderWrong : ChangeSpec := { name := "fnCompareMatchesPointwiseOrder", fn := fun _ => fun
  | [d1, d2, d3, d4] => { results := [.lit (.bool false)], args := [d1, d2, d3, d4] }
  | _ => none }
def FnCompareMatchesPointwiseOrderWrongFalsely : Prop := fnCompareMatchesPointwiseOrderRow.holds Try.pinned (OpenSpec.ofChange fnCompareMatchesPointwiseOrderWrong)

/-- 'zzlaws_root_b1.FnMergeMatchesModel': WHATEVER THE INPUT: true; the input reads as it did. -/
def fnMergeMatchesModelSpec : ChangeSpec := { name := "fnMergeMatchesModel", fn := fun _ => fun
  | [d1, d2, d3, d4] => { results := [.lit (.bool true)], args := [d1, d2, d3, d4] }
  | _ => none }
def fnMergeMatchesModelRow : OpenClaim := { program := "qxb6604248a", sum := "487c477f98105a677681f48c93a64a4f54e9ac5a6de8da887bd6ef6b19856c93", func := "example.com/antecede/antecede/zzlaws_root_b1.FnMergeMatchesModel", spec := "fnMergeMatchesModel", apart := false }
def FnMergeMatchesModelSaid : Prop := fnMergeMatchesModelRow.holds Try.pinned (OpenSpec.ofChange fnMergeMatchesModelSpec)

/-- ITS FALSE NEIGHBOUR: 'it returns false'. Refute it at one input. -/
def fnMergeMatchesModelWrong : ChangeSpec := { name := "fnMergeMatchesModel", fn := fun _ => fun
  | [d1, d2, d3, d4] => { results := [.lit (.bool false)], args := [d1, d2, d3, d4] }
  | _ => none }
def FnMergeMatchesModelWrongFalsely : Prop := fnMergeMatchesModelRow.holds Try.pinned (OpenSpec.ofChange fnMergeMatchesModelWrong)

/-- 'zzlaws_root_b1.FnMergeIsLeastUpperBound': WHATEVER THE INPUT: true; the input reads as it did. -/
def fnMergeIsLeastUpperBoundSpec : ChangeSpec := { name := "fnMergeIsLeastUpperBound", fn := fun _ => fun
  | [d1, d2, d3, d4, d5, d6] => { results := [.lit (.bool true)], args := [d1, d2, d3, d4, d5, d6] }
  | _ => none }
def fnMergeIsLeastUpperBoundRow : OpenClaim := { program := "qxb6604248a", sum := "487c477f98105a677681f48c93a64a4f54e9ac5a6de8da887bd6ef6b19856c93", func := "example.com/antecede/antecede/zzlaws_root_b1.FnMergeIsLeastUpperBound", spec := "fnMergeIsLeastUpperBound", apart := false }
def FnMergeIsLeastUpperBoundSaid : Prop := fnMergeIsLeastUpperBoundRow.holds Try.pinned (OpenSpec.ofChange fnMergeIsLeastUpperBoundSpec)

/-- ITS FALSE NEIGHBOUR: 'it returns false'. Refute it at one input. -/
def fnMergeIsLeastUpperBoundWrong : ChangeSpec := { name := "fnMergeIsLeastUpperBound", fn := fun _ => fun
  | [d1, d2, d3, d4, d5, d6] => { results := [.lit (.bool false)], args := [d1, d2, d3, d4, d5, d6] }
  | _ => none }
def FnMergeIsLeastUpperBoundWrongFalsely : Prop := fnMergeIsLeastUpperBoundRow.holds Try.pinned (OpenSpec.ofChange fnMergeIsLeastUpperBoundWrong)

/-- 'zzlaws_root_b1.FnMergeIsCommutativeAssociativeIdempotent': WHATEVER THE INPUT: true; the input reads as it did. -/
def fnMergeIsCommutativeAssociativeIdempotentSpec : ChangeSpec := { name := "fnMergeIsCommutativeAssociativeIdempotent", fn := fun _ => fun
  | [d1, d2, d3, d4, d5, d6] => { results := [.lit (.bool true)], args := [d1, d2, d3, d4, d5, d6] }
  | _ => none }
def fnMergeIsCommutativeAssociativeIdempotentRow : OpenClaim := { program := "qxb6604248a", sum := "487c477f98105a677681f48c93a64a4f54e9ac5a6de8da887bd6ef6b19856c93", func := "example.com/antecede/antecede/zzlaws_root_b1.FnMergeIsCommutativeAssociativeIdempotent", spec := "fnMergeIsCommutativeAssociativeIdempotent", apart := false }
def FnMergeIsCommutativeAssociativeIdempotentSaid : Prop := fnMergeIsCommutativeAssociativeIdempotentRow.holds Try.pinned (OpenSpec.ofChange fnMergeIsCommutativeAssociativeIdempotentSpec)

/-- ITS FALSE NEIGHBOUR: 'it returns false'. Refute it at one input. -/
def fnMergeIsCommutativeAssociativeIdempotentWrong : ChangeSpec := { name := "fnMergeIsCommutativeAssociativeIdempotent", fn := fun _ => fun
  | [d1, d2, d3, d4, d5, d6] => { results := [.lit (.bool false)], args := [d1, d2, d3, d4, d5, d6] }
  | _ => none }
def FnMergeIsCommutativeAssociativeIdempotentWrongFalsely : Prop := fnMergeIsCommutativeAssociativeIdempotentRow.holds Try.pinned (OpenSpec.ofChange fnMergeIsCommutativeAssociativeIdempotentWrong)

/-- 'zzlaws_root_b1.FnDropLineEndCRsMatchesModel': WHATEVER THE INPUT: true; the input reads as it did. -/
def fnDropLineEndCRsMatchesModelSpec : ChangeSpec := { name := "fnDropLineEndCRsMatchesModel", fn := fun _ => fun
  | [d] => { results := [.lit (.bool true)], args := [d] }
  | _ => none }
def fnDropLineEndCRsMatchesModelRow : OpenClaim := { program := "qxb6604248a", sum := "487c477f98105a677681f48c93a64a4f54e9ac5a6de8da887bd6ef6b19856c93", func := "example.com/antecede/antecede/zzlaws_root_b1.FnDropLineEndCRsMatchesModel", spec := "fnDropLineEndCRsMatchesModel", inPlace := ["internal/bytealg.IndexByte", "internal/bytealg.Index"], named := ["internal/bytealg.MaxLen"], apart := false }
def FnDropLineEndCRsMatchesModelSaid : Prop := fnDropLineEndCRsMatchesModelRow.holds Try.pinned (OpenSpec.ofChange fnDropLineEndCRsMatchesModelSpec)

/-- ITS FALSE NEIGHBOUR: 'it returns false'. Refute it at one input. -/
def fnDropLineEndCRsMatchesModelWrong : ChangeSpec := { name := "fnDropLineEndCRsMatchesModel", fn := fun _ => fun
  | [d] => { results := [.lit (.bool false)], args := [d] }
  | _ => none }
def FnDropLineEndCRsMatchesModelWrongFalsely : Prop := fnDropLineEndCRsMatchesModelRow.holds Try.pinned (OpenSpec.ofChange fnDropLineEndCRsMatchesModelWrong)

/-- 'zzlaws_root_b1.FnDropLineEndCRsSplitsAtLineFeeds': WHATEVER THE INPUT: true; the input reads as it did. -/
def fnDropLineEndCRsSplitsAtLineFeedsSpec : ChangeSpec := { name := "fnDropLineEndCRsSplitsAtLineFeeds", fn := fun _ => fun
  | [d1, d2] => { results := [.lit (.bool true)], args := [d1, d2] }
  | _ => none }
def fnDropLineEndCRsSplitsAtLineFeedsRow : OpenClaim := { program := "qxb6604248a", sum := "487c477f98105a677681f48c93a64a4f54e9ac5a6de8da887bd6ef6b19856c93", func := "example.com/antecede/antecede/zzlaws_root_b1.FnDropLineEndCRsSplitsAtLineFeeds", spec := "fnDropLineEndCRsSplitsAtLineFeeds", inPlace := ["internal/bytealg.IndexByte", "internal/bytealg.Index"], named := ["internal/bytealg.MaxLen"], apart := false }
def FnDropLineEndCRsSplitsAtLineFeedsSaid : Prop := fnDropLineEndCRsSplitsAtLineFeedsRow.holds Try.pinned (OpenSpec.ofChange fnDropLineEndCRsSplitsAtLineFeedsSpec)

/-- ITS FALSE NEIGHBOUR: 'it returns false'. Refute it at one input. -/
def fnDropLineEndCRsSplitsAtLineFeedsWrong : ChangeSpec := { name := "fnDropLineEndCRsSplitsAtLineFeeds", fn := fun _ => fun
  | [d1, d2] => { results := [.lit (.bool false)], args := [d1, d2] }
  | _ => none }
def FnDropLineEndCRsSplitsAtLineFeedsWrongFalsely : Prop := fnDropLineEndCRsSplitsAtLineFeedsRow.holds Try.pinned (OpenSpec.ofChange fnDropLineEndCRsSplitsAtLineFeedsWrong)

end Rows
end Go.Proofs.Qxb6604248a
