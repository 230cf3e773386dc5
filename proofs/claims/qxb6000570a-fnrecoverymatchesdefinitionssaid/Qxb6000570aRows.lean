/-
  No cell of these rows narrows 'for every input' (looked for: loops, veiled, ifaces, maps, wideKeys, modest, calm, conditions, laid).
  DERIVED. THE GIVEN ROWS OF THIS SEAT. 7 by the template 'for every input the law returns true; each argument reads behind the call as it read before'; 0 by the template 'total and deterministic' (their statements: Qxb6000570aTotals.lean).
  GIVEN WITH THE SEED: the statements are not yours to turn. If you find one false, say at which input.
  Laid BY PROGRAM, IN A SANDBOX (cutbox-rows.mjs): the forced cells as the released guide's own fill.sh prints them over the translation c68f3f94f5c240f1… (all of the seat's roots in one cut). By AI agents, Wed Nov 11 2026. No macro, syntax, notation, axiom, sorry.
-/
import Derived.Test.Qxb6000570aChecked
import GoSem.Claim
import GoSem.ClaimJoined
import GoSem.ClaimMapViews
import Derived.JoinedTies
import Derived.KernelRfl
namespace Go.Proofs.Qxb6000570a
/- THE CELL 'sum', in the pinned program and in every row, IS THE sha256 OF THE DUMP (.gsa) THAT Qxb6000570aProg.lean LOADS. Nothing in Lean hashes anything: it is a label: what it is worth is what the hold of that sum in a sandbox is worth. -/
noncomputable def Try.pinned : Pinned := { name := "qxb6000570a", sum := "c68f3f94f5c240f1b6a696b2ae425ca5038d3256be3f8bd98452f595b49d85ca", checked := Try.checked }
namespace Rows
def none {H : Type} : Left H := { results := [], args := [] }

/-- 'zzlaws_internal_analysis_b1.FnComponentsAreMutualReachability': WHATEVER THE INPUT: true; the input reads as it did. -/
def fnComponentsAreMutualReachabilitySpec : ChangeSpec := { name := "fnComponentsAreMutualReachability", fn := fun _ => fun
  | [d] => { results := [.lit (.bool true)], args := [d] }
  | _ => none }
def fnComponentsAreMutualReachabilityRow : OpenClaim := { program := "qxb6000570a", sum := "c68f3f94f5c240f1b6a696b2ae425ca5038d3256be3f8bd98452f595b49d85ca", func := "example.com/stampwise/stampwise/zzlaws_internal_analysis_b1.FnComponentsAreMutualReachability", spec := "fnComponentsAreMutualReachability", unfollowed := true, recurses := true, apart := false }
def FnComponentsAreMutualReachabilitySaid : Prop := fnComponentsAreMutualReachabilityRow.holds Try.pinned (OpenSpec.ofChange fnComponentsAreMutualReachabilitySpec)

/-- ITS FALSE NEIGHBOUR: 'it returns false'. Refute it at one input. -/
def fnComponentsAreMutualReachabilityWrong : ChangeSpec := { name := "fnComponentsAreMutualReachability", fn := fun _ => fun
  | [d] => { results := [.lit (.bool false)], args := [d] }
  | _ => none }
def FnComponentsAreMutualReachabilityWrongFalsely : Prop := fnComponentsAreMutualReachabilityRow.holds Try.pinned (OpenSpec.ofChange fnComponentsAreMutualReachabilityWrong)

/-- 'zzlaws_internal_analysis_b1.FnComponentsNumberedSinksFirst': WHATEVER THE INPUT: true; the input reads as it did. -/
def fnComponentsNumberedSinksFirstSpec : ChangeSpec := { name := "fnComponentsNumberedSinksFirst", fn := fun _ => fun
  | [d] => { results := [.lit (.bool true)], args := [d] }
  | _ => none }
def fnComponentsNumberedSinksFirstRow : OpenClaim := { program := "qxb6000570a", sum := "c68f3f94f5c240f1b6a696b2ae425ca5038d3256be3f8bd98452f595b49d85ca", func := "example.com/stampwise/stampwise/zzlaws_internal_analysis_b1.FnComponentsNumberedSinksFirst", spec := "fnComponentsNumberedSinksFirst", unfollowed := true, recurses := true, apart := false }
def FnComponentsNumberedSinksFirstSaid : Prop := fnComponentsNumberedSinksFirstRow.holds Try.pinned (OpenSpec.ofChange fnComponentsNumberedSinksFirstSpec)

/-- ITS FALSE NEIGHBOUR: 'it returns false'. Refute it at one input. -/
def fnComponentsNumberedSinksFirstWrong : ChangeSpec := { name := "fnComponentsNumberedSinksFirst", fn := fun _ => fun
  | [d] => { results := [.lit (.bool false)], args := [d] }
  | _ => none }
def FnComponentsNumberedSinksFirstWrongFalsely : Prop := fnComponentsNumberedSinksFirstRow.holds Try.pinned (OpenSpec.ofChange fnComponentsNumberedSinksFirstWrong)

/-- 'zzlaws_internal_analysis_b1.FnComponentsSameForReversedEdges': WHATEVER THE INPUT: true; the input reads as it did. -/
def fnComponentsSameForReversedEdgesSpec : ChangeSpec := { name := "fnComponentsSameForReversedEdges", fn := fun _ => fun
  | [d] => { results := [.lit (.bool true)], args := [d] }
  | _ => none }
def fnComponentsSameForReversedEdgesRow : OpenClaim := { program := "qxb6000570a", sum := "c68f3f94f5c240f1b6a696b2ae425ca5038d3256be3f8bd98452f595b49d85ca", func := "example.com/stampwise/stampwise/zzlaws_internal_analysis_b1.FnComponentsSameForReversedEdges", spec := "fnComponentsSameForReversedEdges", unfollowed := true, recurses := true, apart := false }
def FnComponentsSameForReversedEdgesSaid : Prop := fnComponentsSameForReversedEdgesRow.holds Try.pinned (OpenSpec.ofChange fnComponentsSameForReversedEdgesSpec)

/-- ITS FALSE NEIGHBOUR: 'it returns false'. Refute it at one input. -/
def fnComponentsSameForReversedEdgesWrong : ChangeSpec := { name := "fnComponentsSameForReversedEdges", fn := fun _ => fun
  | [d] => { results := [.lit (.bool false)], args := [d] }
  | _ => none }
def FnComponentsSameForReversedEdgesWrongFalsely : Prop := fnComponentsSameForReversedEdgesRow.holds Try.pinned (OpenSpec.ofChange fnComponentsSameForReversedEdgesWrong)

/-- 'zzlaws_internal_analysis_b1.FnRecoveryClassesNested': WHATEVER THE INPUT: true; the input reads as it did. -/
def fnRecoveryClassesNestedSpec : ChangeSpec := { name := "fnRecoveryClassesNested", fn := fun _ => fun
  | [d1, d2, d3] => { results := [.lit (.bool true)], args := [d1, d2, d3] }
  | _ => none }
def fnRecoveryClassesNestedRow : OpenClaim := { program := "qxb6000570a", sum := "c68f3f94f5c240f1b6a696b2ae425ca5038d3256be3f8bd98452f595b49d85ca", func := "example.com/stampwise/stampwise/zzlaws_internal_analysis_b1.FnRecoveryClassesNested", spec := "fnRecoveryClassesNested", apart := false }
def FnRecoveryClassesNestedSaid : Prop := fnRecoveryClassesNestedRow.holds Try.pinned (OpenSpec.ofChange fnRecoveryClassesNestedSpec)

/-- ITS FALSE NEIGHBOUR: 'it returns false'. Refute it at one input. -/
def fnRecoveryClassesNestedWrong : ChangeSpec := { name := "fnRecoveryClassesNested", fn := fun _ => fun
  | [d1, d2, d3] => { results := [.lit (.bool false)], args := [d1, d2, d3] }
  | _ => none }
def FnRecoveryClassesNestedWrongFalsely : Prop := fnRecoveryClassesNestedRow.holds Try.pinned (OpenSpec.ofChange fnRecoveryClassesNestedWrong)

/-- 'zzlaws_internal_analysis_b1.FnRecoveryMatchesDefinitions': WHATEVER THE INPUT: true; the input reads as it did. -/
def fnRecoveryMatchesDefinitionsSpec : ChangeSpec := { name := "fnRecoveryMatchesDefinitions", fn := fun _ => fun
  | [d1, d2, d3] => { results := [.lit (.bool true)], args := [d1, d2, d3] }
  | _ => none }
def fnRecoveryMatchesDefinitionsRow : OpenClaim := { program := "qxb6000570a", sum := "c68f3f94f5c240f1b6a696b2ae425ca5038d3256be3f8bd98452f595b49d85ca", func := "example.com/stampwise/stampwise/zzlaws_internal_analysis_b1.FnRecoveryMatchesDefinitions", spec := "fnRecoveryMatchesDefinitions", apart := false }
def FnRecoveryMatchesDefinitionsSaid : Prop := fnRecoveryMatchesDefinitionsRow.holds Try.pinned (OpenSpec.ofChange fnRecoveryMatchesDefinitionsSpec)

/-- ITS FALSE NEIGHBOUR: 'it returns false'. Refute it at one input. -/
def fnRecoveryMatchesDefinitionsWrong : ChangeSpec := { name := "fnRecoveryMatchesDefinitions", fn := fun _ => fun
  | [d1, d2, d3] => { results := [.lit (.bool false)], args := [d1, d2, d3] }
  | _ => none }
def FnRecoveryMatchesDefinitionsWrongFalsely : Prop := fnRecoveryMatchesDefinitionsRow.holds Try.pinned (OpenSpec.ofChange fnRecoveryMatchesDefinitionsWrong)

/-- 'zzlaws_internal_analysis_b1.FnViewEquivalentPrefixClosed': WHATEVER THE INPUT: true; the input reads as it did. -/
def fnViewEquivalentPrefixClosedSpec : ChangeSpec := { name := "fnViewEquivalentPrefixClosed", fn := fun _ => fun
  | [d1, d2, d3, d4, d5, d6, d7] => { results := [.lit (.bool true)], args := [d1, d2, d3, d4, d5, d6, d7] }
  | _ => none }
def fnViewEquivalentPrefixClosedRow : OpenClaim := { program := "qxb6000570a", sum := "c68f3f94f5c240f1b6a696b2ae425ca5038d3256be3f8bd98452f595b49d85ca", func := "example.com/stampwise/stampwise/zzlaws_internal_analysis_b1.FnViewEquivalentPrefixClosed", spec := "fnViewEquivalentPrefixClosed", apart := false }
def FnViewEquivalentPrefixClosedSaid : Prop := fnViewEquivalentPrefixClosedRow.holds Try.pinned (OpenSpec.ofChange fnViewEquivalentPrefixClosedSpec)

/-- ITS FALSE NEIGHBOUR: 'it returns false'. Refute it at one input. -/
def fnViewEquivalentPrefixClosedWrong : ChangeSpec := { name := "fnViewEquivalentPrefixClosed", fn := fun _ => fun
  | [d1, d2, d3, d4, d5, d6, d7] => { results := [.lit (.bool false)], args := [d1, d2, d3, d4, d5, d6, d7] }
  | _ => none }
def FnViewEquivalentPrefixClosedWrongFalsely : Prop := fnViewEquivalentPrefixClosedRow.holds Try.pinned (OpenSpec.ofChange fnViewEquivalentPrefixClosedWrong)

/-- 'zzlaws_internal_analysis_b1.FnViewEquivalentMatchesSerialReadsFrom': WHATEVER THE INPUT: true; the input reads as it did. -/
def fnViewEquivalentMatchesSerialReadsFromSpec : ChangeSpec := { name := "fnViewEquivalentMatchesSerialReadsFrom", fn := fun _ => fun
  | [d1, d2, d3, d4, d5, d6] => { results := [.lit (.bool true)], args := [d1, d2, d3, d4, d5, d6] }
  | _ => none }
def fnViewEquivalentMatchesSerialReadsFromRow : OpenClaim := { program := "qxb6000570a", sum := "c68f3f94f5c240f1b6a696b2ae425ca5038d3256be3f8bd98452f595b49d85ca", func := "example.com/stampwise/stampwise/zzlaws_internal_analysis_b1.FnViewEquivalentMatchesSerialReadsFrom", spec := "fnViewEquivalentMatchesSerialReadsFrom", apart := false }
def FnViewEquivalentMatchesSerialReadsFromSaid : Prop := fnViewEquivalentMatchesSerialReadsFromRow.holds Try.pinned (OpenSpec.ofChange fnViewEquivalentMatchesSerialReadsFromSpec)

/-- ITS FALSE NEIGHBOUR: 'it returns false'. Refute it at one input. -/
def fnViewEquivalentMatchesSerialReadsFromWrong : ChangeSpec := { name := "fnViewEquivalentMatchesSerialReadsFrom", fn := fun _ => fun
  | [d1, d2, d3, d4, d5, d6] => { results := [.lit (.bool false)], args := [d1, d2, d3, d4, d5, d6] }
  | _ => none }
def FnViewEquivalentMatchesSerialReadsFromWrongFalsely : Prop := fnViewEquivalentMatchesSerialReadsFromRow.holds Try.pinned (OpenSpec.ofChange fnViewEquivalentMatchesSerialReadsFromWrong)

end Rows
end Go.Proofs.Qxb6000570a
