/-
  No cell of these rows narrows 'for every input' (looked for: loops, veiled, ifaces, maps, wideKeys, modest, calm, conditions, laid).
  DERIVED. THE GIVEN ROWS OF THIS SEAT. 4 by the template 'for every input the law returns true; each argument reads behind the call as it read before'; 0 by the template 'total and deterministic' (their statements: Qxb6003763aTotals.lean).
  GIVEN WITH THE SEED: the statements are not yours to turn. If you find one false, say at which input.
  Laid BY PROGRAM, IN A SANDBOX (cutbox-rows.mjs): the forced cells as the released guide's own fill.sh prints them over the translation 955b34e285888b61… (all of the seat's roots in one cut). By AI agents, Wed Nov 11 2026. No macro, syntax, notation, axiom, sorry.
-/
import Derived.Test.Qxb6003763aChecked
import GoSem.Claim
import GoSem.ClaimJoined
import GoSem.ClaimMapViews
import Derived.JoinedTies
import Derived.KernelRfl
namespace Go.Proofs.Qxb6003763a
/- THE CELL 'sum', in the pinned program and in every row, IS THE sha256 OF THE DUMP (.gsa) THAT Qxb6003763aProg.lean LOADS. Nothing in Lean hashes anything: it is a label: what it is worth is what the hold of that sum in a sandbox is worth. -/
noncomputable def Try.pinned : Pinned := { name := "qxb6003763a", sum := "955b34e285888b614fbd9efdc297b5d7b12fe1f30a1ea9a4f23a2e7a1ed83aaf", checked := Try.checked }
namespace Rows
def none {H : Type} : Left H := { results := [], args := [] }

/-- 'zzlaws_internal_git_g1.FnVarintReadsOffsetEncoding': WHATEVER THE INPUT: true; the input reads as it did. -/
def fnVarintReadsOffsetEncodingSpec : ChangeSpec := { name := "fnVarintReadsOffsetEncoding", fn := fun _ => fun
  | [d1, d2] => { results := [.lit (.bool true)], args := [d1, d2] }
  | _ => none }
def fnVarintReadsOffsetEncodingRow : OpenClaim := { program := "qxb6003763a", sum := "955b34e285888b614fbd9efdc297b5d7b12fe1f30a1ea9a4f23a2e7a1ed83aaf", func := "example.com/phaseline/phaseline/zzlaws_internal_git_g1.FnVarintReadsOffsetEncoding", spec := "fnVarintReadsOffsetEncoding", apart := false }
def FnVarintReadsOffsetEncodingSaid : Prop := fnVarintReadsOffsetEncodingRow.holds Try.pinned (OpenSpec.ofChange fnVarintReadsOffsetEncodingSpec)

/-- ITS FALSE NEIGHBOUR: 'it returns false'. Refute it at one input. -/
def fnVarintReadsOffsetEncodingWrong : ChangeSpec := { name := "fnVarintReadsOffsetEncoding", fn := fun _ => fun
  | [d1, d2] => { results := [.lit (.bool false)], args := [d1, d2] }
  | _ => none }
def FnVarintReadsOffsetEncodingWrongFalsely : Prop := fnVarintReadsOffsetEncodingRow.holds Try.pinned (OpenSpec.ofChange fnVarintReadsOffsetEncodingWrong)

/-- 'zzlaws_internal_git_g1.FnVarintAcceptsOnlyCanonicalPrefixes': WHATEVER THE INPUT: true; the input reads as it did. -/
def fnVarintAcceptsOnlyCanonicalPrefixesSpec : ChangeSpec := { name := "fnVarintAcceptsOnlyCanonicalPrefixes", fn := fun _ => fun
  | [d] => { results := [.lit (.bool true)], args := [d] }
  | _ => none }
def fnVarintAcceptsOnlyCanonicalPrefixesRow : OpenClaim := { program := "qxb6003763a", sum := "955b34e285888b614fbd9efdc297b5d7b12fe1f30a1ea9a4f23a2e7a1ed83aaf", func := "example.com/phaseline/phaseline/zzlaws_internal_git_g1.FnVarintAcceptsOnlyCanonicalPrefixes", spec := "fnVarintAcceptsOnlyCanonicalPrefixes", apart := false }
def FnVarintAcceptsOnlyCanonicalPrefixesSaid : Prop := fnVarintAcceptsOnlyCanonicalPrefixesRow.holds Try.pinned (OpenSpec.ofChange fnVarintAcceptsOnlyCanonicalPrefixesSpec)

/-- ITS FALSE NEIGHBOUR: 'it returns false'. Refute it at one input. -/
def fnVarintAcceptsOnlyCanonicalPrefixesWrong : ChangeSpec := { name := "fnVarintAcceptsOnlyCanonicalPrefixes", fn := fun _ => fun
  | [d] => { results := [.lit (.bool false)], args := [d] }
  | _ => none }
def FnVarintAcceptsOnlyCanonicalPrefixesWrongFalsely : Prop := fnVarintAcceptsOnlyCanonicalPrefixesRow.holds Try.pinned (OpenSpec.ofChange fnVarintAcceptsOnlyCanonicalPrefixesWrong)

/-- 'zzlaws_internal_git_g1.FnSubcommandSkipsOptionsBeforeIt': WHATEVER THE INPUT: true; the input reads as it did. -/
def fnSubcommandSkipsOptionsBeforeItSpec : ChangeSpec := { name := "fnSubcommandSkipsOptionsBeforeIt", fn := fun _ => fun
  | [d1, d2, d3] => { results := [.lit (.bool true)], args := [d1, d2, d3] }
  | _ => none }
def fnSubcommandSkipsOptionsBeforeItRow : OpenClaim := { program := "qxb6003763a", sum := "955b34e285888b614fbd9efdc297b5d7b12fe1f30a1ea9a4f23a2e7a1ed83aaf", func := "example.com/phaseline/phaseline/zzlaws_internal_git_g1.FnSubcommandSkipsOptionsBeforeIt", spec := "fnSubcommandSkipsOptionsBeforeIt", apart := false }
def FnSubcommandSkipsOptionsBeforeItSaid : Prop := fnSubcommandSkipsOptionsBeforeItRow.holds Try.pinned (OpenSpec.ofChange fnSubcommandSkipsOptionsBeforeItSpec)

/-- ITS FALSE NEIGHBOUR: 'it returns false'. Refute it at one input. -/
def fnSubcommandSkipsOptionsBeforeItWrong : ChangeSpec := { name := "fnSubcommandSkipsOptionsBeforeIt", fn := fun _ => fun
  | [d1, d2, d3] => { results := [.lit (.bool false)], args := [d1, d2, d3] }
  | _ => none }
def FnSubcommandSkipsOptionsBeforeItWrongFalsely : Prop := fnSubcommandSkipsOptionsBeforeItRow.holds Try.pinned (OpenSpec.ofChange fnSubcommandSkipsOptionsBeforeItWrong)

/-- 'zzlaws_internal_git_g1.FnSubcommandDecidedByPrefix': WHATEVER THE INPUT: true; the input reads as it did. -/
def fnSubcommandDecidedByPrefixSpec : ChangeSpec := { name := "fnSubcommandDecidedByPrefix", fn := fun _ => fun
  | [d1, d2] => { results := [.lit (.bool true)], args := [d1, d2] }
  | _ => none }
def fnSubcommandDecidedByPrefixRow : OpenClaim := { program := "qxb6003763a", sum := "955b34e285888b614fbd9efdc297b5d7b12fe1f30a1ea9a4f23a2e7a1ed83aaf", func := "example.com/phaseline/phaseline/zzlaws_internal_git_g1.FnSubcommandDecidedByPrefix", spec := "fnSubcommandDecidedByPrefix", apart := false }
def FnSubcommandDecidedByPrefixSaid : Prop := fnSubcommandDecidedByPrefixRow.holds Try.pinned (OpenSpec.ofChange fnSubcommandDecidedByPrefixSpec)

/-- ITS FALSE NEIGHBOUR: 'it returns false'. Refute it at one input. -/
def fnSubcommandDecidedByPrefixWrong : ChangeSpec := { name := "fnSubcommandDecidedByPrefix", fn := fun _ => fun
  | [d1, d2] => { results := [.lit (.bool false)], args := [d1, d2] }
  | _ => none }
def FnSubcommandDecidedByPrefixWrongFalsely : Prop := fnSubcommandDecidedByPrefixRow.holds Try.pinned (OpenSpec.ofChange fnSubcommandDecidedByPrefixWrong)

end Rows
end Go.Proofs.Qxb6003763a
