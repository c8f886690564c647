/-
  No cell of these rows narrows 'for every input' (looked for: loops, veiled, ifaces, maps, wideKeys, modest, calm, conditions, laid).
  DERIVED. THE GIVEN ROWS OF THIS SEAT. 4 by the template 'for every input the law returns true; each argument reads behind the call as it read before'; 0 by the template 'total and deterministic' (their statements: Qxb6003749aTotals.lean).
  GIVEN WITH THE SEED: the statements are not yours to turn. If you find one false, say at which input.
  Laid BY PROGRAM, IN A SANDBOX (cutbox-rows.mjs): the forced cells as the released guide's own fill.sh prints them over the translation 73a432189682c5ac… (all of the seat's roots in one cut). By AI agents, Wed Nov 11 2026. No macro, syntax, notation, axiom, sorry.
-/
import Derived.Test.Qxb6003749aChecked
import GoSem.Claim
import GoSem.ClaimJoined
import GoSem.ClaimMapViews
import Derived.JoinedTies
import Derived.KernelRfl
namespace Go.Proofs.Qxb6003749a
/- THE CELL 'sum', in the pinned program and in every row, IS THE sha256 OF THE DUMP (.gsa) THAT Qxb6003749aProg.lean LOADS. Nothing in Lean hashes anything: it is a label: what it is worth is what the hold of that sum in a sandbox is worth. -/
noncomputable def Try.pinned : Pinned := { name := "qxb6003749a", sum := "73a432189682c5ac332dbae8638b69e7badabf64b3afe3d26ae5b215390e0713", checked := Try.checked }
namespace Rows
def none {H : Type} : Left H := { results := [], args := [] }

/-- 'zzlaws_internal_bigconv_g1.FnSplitThenJoinRestores': WHATEVER THE INPUT: true; the input reads as it did. -/
def fnSplitThenJoinRestoresSpec : ChangeSpec := { name := "fnSplitThenJoinRestores", fn := fun _ => fun
  | [d1, d2] => { results := [.lit (.bool true)], args := [d1, d2] }
  | _ => none }
def fnSplitThenJoinRestoresRow : OpenClaim := { program := "qxb6003749a", sum := "73a432189682c5ac332dbae8638b69e7badabf64b3afe3d26ae5b215390e0713", func := "example.com/slash-dash/slash-dash/zzlaws_internal_bigconv_g1.FnSplitThenJoinRestores", spec := "fnSplitThenJoinRestores", apart := false }
def FnSplitThenJoinRestoresSaid : Prop := fnSplitThenJoinRestoresRow.holds Try.pinned (OpenSpec.ofChange fnSplitThenJoinRestoresSpec)

/-- ITS FALSE NEIGHBOUR: 'it returns false'. Refute it at one input. -/
def fnSplitThenJoinRestoresWrong : ChangeSpec := { name := "fnSplitThenJoinRestores", fn := fun _ => fun
  | [d1, d2] => { results := [.lit (.bool false)], args := [d1, d2] }
  | _ => none }
def FnSplitThenJoinRestoresWrongFalsely : Prop := fnSplitThenJoinRestoresRow.holds Try.pinned (OpenSpec.ofChange fnSplitThenJoinRestoresWrong)

/-- 'zzlaws_internal_bigconv_g1.FnForwardEvaluatesAtBitReversedRoots': WHATEVER THE INPUT: true; the input reads as it did. -/
def fnForwardEvaluatesAtBitReversedRootsSpec : ChangeSpec := { name := "fnForwardEvaluatesAtBitReversedRoots", fn := fun _ => fun
  | [d] => { results := [.lit (.bool true)], args := [d] }
  | _ => none }
def fnForwardEvaluatesAtBitReversedRootsRow : OpenClaim := { program := "qxb6003749a", sum := "73a432189682c5ac332dbae8638b69e7badabf64b3afe3d26ae5b215390e0713", func := "example.com/slash-dash/slash-dash/zzlaws_internal_bigconv_g1.FnForwardEvaluatesAtBitReversedRoots", spec := "fnForwardEvaluatesAtBitReversedRoots", inPlace := ["math/bits.Sub64", "math/bits.Add64"], recurses := true, apart := false }
def FnForwardEvaluatesAtBitReversedRootsSaid : Prop := fnForwardEvaluatesAtBitReversedRootsRow.holds Try.pinned (OpenSpec.ofChange fnForwardEvaluatesAtBitReversedRootsSpec)

/-- ITS FALSE NEIGHBOUR: 'it returns false'. Refute it at one input. -/
def fnForwardEvaluatesAtBitReversedRootsWrong : ChangeSpec := { name := "fnForwardEvaluatesAtBitReversedRoots", fn := fun _ => fun
  | [d] => { results := [.lit (.bool false)], args := [d] }
  | _ => none }
def FnForwardEvaluatesAtBitReversedRootsWrongFalsely : Prop := fnForwardEvaluatesAtBitReversedRootsRow.holds Try.pinned (OpenSpec.ofChange fnForwardEvaluatesAtBitReversedRootsWrong)

/-- 'zzlaws_internal_bigconv_g1.FnBackwardUndoesForward': WHATEVER THE INPUT: true; the input reads as it did. -/
def fnBackwardUndoesForwardSpec : ChangeSpec := { name := "fnBackwardUndoesForward", fn := fun _ => fun
  | [d] => { results := [.lit (.bool true)], args := [d] }
  | _ => none }
def fnBackwardUndoesForwardRow : OpenClaim := { program := "qxb6003749a", sum := "73a432189682c5ac332dbae8638b69e7badabf64b3afe3d26ae5b215390e0713", func := "example.com/slash-dash/slash-dash/zzlaws_internal_bigconv_g1.FnBackwardUndoesForward", spec := "fnBackwardUndoesForward", inPlace := ["math/bits.Sub64", "math/bits.Add64"], recurses := true, apart := false }
def FnBackwardUndoesForwardSaid : Prop := fnBackwardUndoesForwardRow.holds Try.pinned (OpenSpec.ofChange fnBackwardUndoesForwardSpec)

/-- ITS FALSE NEIGHBOUR: 'it returns false'. Refute it at one input. -/
def fnBackwardUndoesForwardWrong : ChangeSpec := { name := "fnBackwardUndoesForward", fn := fun _ => fun
  | [d] => { results := [.lit (.bool false)], args := [d] }
  | _ => none }
def FnBackwardUndoesForwardWrongFalsely : Prop := fnBackwardUndoesForwardRow.holds Try.pinned (OpenSpec.ofChange fnBackwardUndoesForwardWrong)

/-- 'zzlaws_internal_bigconv_g1.FnTransformThenProductMultiplies': WHATEVER THE INPUT: true; the input reads as it did. -/
def fnTransformThenProductMultipliesSpec : ChangeSpec := { name := "fnTransformThenProductMultiplies", fn := fun _ => fun
  | [d1, d2, d3, d4] => { results := [.lit (.bool true)], args := [d1, d2, d3, d4] }
  | _ => none }
def fnTransformThenProductMultipliesRow : OpenClaim := { program := "qxb6003749a", sum := "73a432189682c5ac332dbae8638b69e7badabf64b3afe3d26ae5b215390e0713", func := "example.com/slash-dash/slash-dash/zzlaws_internal_bigconv_g1.FnTransformThenProductMultiplies", spec := "fnTransformThenProductMultiplies", inPlace := ["math/bits.Sub64", "math/bits.Add64"], recurses := true, apart := false }
def FnTransformThenProductMultipliesSaid : Prop := fnTransformThenProductMultipliesRow.holds Try.pinned (OpenSpec.ofChange fnTransformThenProductMultipliesSpec)

/-- ITS FALSE NEIGHBOUR: 'it returns false'. Refute it at one input. -/
def fnTransformThenProductMultipliesWrong : ChangeSpec := { name := "fnTransformThenProductMultiplies", fn := fun _ => fun
  | [d1, d2, d3, d4] => { results := [.lit (.bool false)], args := [d1, d2, d3, d4] }
  | _ => none }
def FnTransformThenProductMultipliesWrongFalsely : Prop := fnTransformThenProductMultipliesRow.holds Try.pinned (OpenSpec.ofChange fnTransformThenProductMultipliesWrong)

end Rows
end Go.Proofs.Qxb6003749a
