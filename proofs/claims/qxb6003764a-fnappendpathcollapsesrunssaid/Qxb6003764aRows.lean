/-
  No cell of these rows narrows 'for every input' (looked for: loops, veiled, ifaces, maps, wideKeys, modest, calm, conditions, laid).
  DERIVED. THE GIVEN ROWS OF THIS SEAT. 4 by the template 'for every input the law returns true; each argument reads behind the call as it read before'; 0 by the template 'total and deterministic' (their statements: Qxb6003764aTotals.lean).
  GIVEN WITH THE SEED: the statements are not yours to turn. If you find one false, say at which input.
  Laid BY PROGRAM, IN A SANDBOX (cutbox-rows.mjs): the forced cells as the released guide's own fill.sh prints them over the translation e500c88eb01d0c48… (all of the seat's roots in one cut). By AI agents, Wed Nov 11 2026. No macro, syntax, notation, axiom, sorry.
-/
import Derived.Test.Qxb6003764aChecked
import GoSem.Claim
import GoSem.ClaimJoined
import GoSem.ClaimMapViews
import Derived.JoinedTies
import Derived.KernelRfl
namespace Go.Proofs.Qxb6003764a
/- THE CELL 'sum', in the pinned program and in every row, IS THE sha256 OF THE DUMP (.gsa) THAT Qxb6003764aProg.lean LOADS. Nothing in Lean hashes anything: it is a label: what it is worth is what the hold of that sum in a sandbox is worth. -/
noncomputable def Try.pinned : Pinned := { name := "qxb6003764a", sum := "e500c88eb01d0c481be92a4227e8919b20c4db6b9355067859275e7fb62456d9", checked := Try.checked }
namespace Rows
def none {H : Type} : Left H := { results := [], args := [] }

/-- 'zzlaws_internal_git_g1.FnAppendPathCollapsesRuns': WHATEVER THE INPUT: true; the input reads as it did. -/
def fnAppendPathCollapsesRunsSpec : ChangeSpec := { name := "fnAppendPathCollapsesRuns", fn := fun _ => fun
  | [d] => { results := [.lit (.bool true)], args := [d] }
  | _ => none }
def fnAppendPathCollapsesRunsRow : OpenClaim := { program := "qxb6003764a", sum := "e500c88eb01d0c481be92a4227e8919b20c4db6b9355067859275e7fb62456d9", func := "example.com/phaseline/phaseline/zzlaws_internal_git_g1.FnAppendPathCollapsesRuns", spec := "fnAppendPathCollapsesRuns", apart := false }
def FnAppendPathCollapsesRunsSaid : Prop := fnAppendPathCollapsesRunsRow.holds Try.pinned (OpenSpec.ofChange fnAppendPathCollapsesRunsSpec)

/-- ITS FALSE NEIGHBOUR: 'it returns false'. Refute it at one input. -/
def fnAppendPathCollapsesRunsWrong : ChangeSpec := { name := "fnAppendPathCollapsesRuns", fn := fun _ => fun
  | [d] => { results := [.lit (.bool false)], args := [d] }
  | _ => none }
def FnAppendPathCollapsesRunsWrongFalsely : Prop := fnAppendPathCollapsesRunsRow.holds Try.pinned (OpenSpec.ofChange fnAppendPathCollapsesRunsWrong)

/-- 'zzlaws_internal_plan_g1.FnTaskMarkerIsOneOfNinePrefixes': WHATEVER THE INPUT: true; the input reads as it did. -/
def fnTaskMarkerIsOneOfNinePrefixesSpec : ChangeSpec := { name := "fnTaskMarkerIsOneOfNinePrefixes", fn := fun _ => fun
  | [d] => { results := [.lit (.bool true)], args := [d] }
  | _ => none }
def fnTaskMarkerIsOneOfNinePrefixesRow : OpenClaim := { program := "qxb6003764a", sum := "e500c88eb01d0c481be92a4227e8919b20c4db6b9355067859275e7fb62456d9", func := "example.com/phaseline/phaseline/zzlaws_internal_plan_g1.FnTaskMarkerIsOneOfNinePrefixes", spec := "fnTaskMarkerIsOneOfNinePrefixes", inPlace := ["internal/bytealg.IndexByteString", "internal/bytealg.IndexString"], named := ["internal/bytealg.MaxLen"], apart := false }
def FnTaskMarkerIsOneOfNinePrefixesSaid : Prop := fnTaskMarkerIsOneOfNinePrefixesRow.holds Try.pinned (OpenSpec.ofChange fnTaskMarkerIsOneOfNinePrefixesSpec)

/-- ITS FALSE NEIGHBOUR: 'it returns false'. Refute it at one input. -/
def fnTaskMarkerIsOneOfNinePrefixesWrong : ChangeSpec := { name := "fnTaskMarkerIsOneOfNinePrefixes", fn := fun _ => fun
  | [d] => { results := [.lit (.bool false)], args := [d] }
  | _ => none }
def FnTaskMarkerIsOneOfNinePrefixesWrongFalsely : Prop := fnTaskMarkerIsOneOfNinePrefixesRow.holds Try.pinned (OpenSpec.ofChange fnTaskMarkerIsOneOfNinePrefixesWrong)

/-- 'zzlaws_internal_plan_g1.FnFenceRunIsLongestRunOfThree': WHATEVER THE INPUT: true; the input reads as it did. -/
def fnFenceRunIsLongestRunOfThreeSpec : ChangeSpec := { name := "fnFenceRunIsLongestRunOfThree", fn := fun _ => fun
  | [d] => { results := [.lit (.bool true)], args := [d] }
  | _ => none }
def fnFenceRunIsLongestRunOfThreeRow : OpenClaim := { program := "qxb6003764a", sum := "e500c88eb01d0c481be92a4227e8919b20c4db6b9355067859275e7fb62456d9", func := "example.com/phaseline/phaseline/zzlaws_internal_plan_g1.FnFenceRunIsLongestRunOfThree", spec := "fnFenceRunIsLongestRunOfThree", apart := false }
def FnFenceRunIsLongestRunOfThreeSaid : Prop := fnFenceRunIsLongestRunOfThreeRow.holds Try.pinned (OpenSpec.ofChange fnFenceRunIsLongestRunOfThreeSpec)

/-- ITS FALSE NEIGHBOUR: 'it returns false'. Refute it at one input. -/
def fnFenceRunIsLongestRunOfThreeWrong : ChangeSpec := { name := "fnFenceRunIsLongestRunOfThree", fn := fun _ => fun
  | [d] => { results := [.lit (.bool false)], args := [d] }
  | _ => none }
def FnFenceRunIsLongestRunOfThreeWrongFalsely : Prop := fnFenceRunIsLongestRunOfThreeRow.holds Try.pinned (OpenSpec.ofChange fnFenceRunIsLongestRunOfThreeWrong)

/-- 'zzlaws_internal_plan_g1.FnIsHeadingOneToSixHashes': WHATEVER THE INPUT: true; the input reads as it did. -/
def fnIsHeadingOneToSixHashesSpec : ChangeSpec := { name := "fnIsHeadingOneToSixHashes", fn := fun _ => fun
  | [d] => { results := [.lit (.bool true)], args := [d] }
  | _ => none }
def fnIsHeadingOneToSixHashesRow : OpenClaim := { program := "qxb6003764a", sum := "e500c88eb01d0c481be92a4227e8919b20c4db6b9355067859275e7fb62456d9", func := "example.com/phaseline/phaseline/zzlaws_internal_plan_g1.FnIsHeadingOneToSixHashes", spec := "fnIsHeadingOneToSixHashes", apart := false }
def FnIsHeadingOneToSixHashesSaid : Prop := fnIsHeadingOneToSixHashesRow.holds Try.pinned (OpenSpec.ofChange fnIsHeadingOneToSixHashesSpec)

/-- ITS FALSE NEIGHBOUR: 'it returns false'. Refute it at one input. -/
def fnIsHeadingOneToSixHashesWrong : ChangeSpec := { name := "fnIsHeadingOneToSixHashes", fn := fun _ => fun
  | [d] => { results := [.lit (.bool false)], args := [d] }
  | _ => none }
def FnIsHeadingOneToSixHashesWrongFalsely : Prop := fnIsHeadingOneToSixHashesRow.holds Try.pinned (OpenSpec.ofChange fnIsHeadingOneToSixHashesWrong)

end Rows
end Go.Proofs.Qxb6003764a
