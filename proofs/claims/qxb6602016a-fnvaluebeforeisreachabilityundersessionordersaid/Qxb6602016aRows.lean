/-
  No cell of these rows narrows 'for every input' (looked for: loops, veiled, ifaces, maps, wideKeys, modest, calm, conditions, laid).
  DERIVED. THE GIVEN ROWS OF THIS SEAT. 5 by the template 'for every input the law returns true; each argument reads behind the call as it read before'; 0 by the template 'total and deterministic' (their statements: Qxb6602016aTotals.lean).
  GIVEN WITH THE SEED: the statements are not yours to turn. If you find one false, say at which input.
  Laid BY PROGRAM, IN A SANDBOX (cutbox-rows.mjs): the forced cells as the released guide's own fill.sh prints them over the translation 4f88ff46bda7aec3… (all of the seat's roots in one cut). By AI agents, Wed Nov 11 2026. No macro, syntax, notation, axiom, sorry.
-/
import Derived.Test.Qxb6602016aChecked
import GoSem.Claim
import GoSem.ClaimJoined
import GoSem.ClaimMapViews
import Derived.JoinedTies
import Derived.KernelRfl
namespace Go.Proofs.Qxb6602016a
/- THE CELL 'sum', in the pinned program and in every row, IS THE sha256 OF THE DUMP (.gsa) THAT Qxb6602016aProg.lean LOADS. Nothing in Lean hashes anything: it is a label: what it is worth is what the hold of that sum in a sandbox is worth. -/
noncomputable def Try.pinned : Pinned := { name := "qxb6602016a", sum := "4f88ff46bda7aec38687dfa158f64f983daafd82d0df7557ffdc81faee9bbcb4", checked := Try.checked }
namespace Rows
def none {H : Type} : Left H := { results := [], args := [] }

/-- 'zzlaws_internal_history_b1.FnStronglyConnectedIsMutualReachability': WHATEVER THE INPUT: true; the input reads as it did. -/
def fnStronglyConnectedIsMutualReachabilitySpec : ChangeSpec := { name := "fnStronglyConnectedIsMutualReachability", fn := fun _ => fun
  | [d] => { results := [.lit (.bool true)], args := [d] }
  | _ => none }
def fnStronglyConnectedIsMutualReachabilityRow : OpenClaim := { program := "qxb6602016a", sum := "4f88ff46bda7aec38687dfa158f64f983daafd82d0df7557ffdc81faee9bbcb4", func := "example.com/holdfast/holdfast/zzlaws_internal_history_b1.FnStronglyConnectedIsMutualReachability", spec := "fnStronglyConnectedIsMutualReachability", apart := false }
def FnStronglyConnectedIsMutualReachabilitySaid : Prop := fnStronglyConnectedIsMutualReachabilityRow.holds Try.pinned (OpenSpec.ofChange fnStronglyConnectedIsMutualReachabilitySpec)

/-- ITS FALSE NEIGHBOUR: 'it returns false'. Refute it at one input. -/
def fnStronglyConnectedIsMutualReachabilityWrong : ChangeSpec := { name := "fnStronglyConnectedIsMutualReachability", fn := fun _ => fun
  | [d] => { results := [.lit (.bool false)], args := [d] }
  | _ => none }
def FnStronglyConnectedIsMutualReachabilityWrongFalsely : Prop := fnStronglyConnectedIsMutualReachabilityRow.holds Try.pinned (OpenSpec.ofChange fnStronglyConnectedIsMutualReachabilityWrong)

/-- 'zzlaws_internal_history_b1.FnStronglyConnectedNumbersInReverseTopologicalOrder': WHATEVER THE INPUT: true; the input reads as it did. -/
def fnStronglyConnectedNumbersInReverseTopologicalOrderSpec : ChangeSpec := { name := "fnStronglyConnectedNumbersInReverseTopologicalOrder", fn := fun _ => fun
  | [d] => { results := [.lit (.bool true)], args := [d] }
  | _ => none }
def fnStronglyConnectedNumbersInReverseTopologicalOrderRow : OpenClaim := { program := "qxb6602016a", sum := "4f88ff46bda7aec38687dfa158f64f983daafd82d0df7557ffdc81faee9bbcb4", func := "example.com/holdfast/holdfast/zzlaws_internal_history_b1.FnStronglyConnectedNumbersInReverseTopologicalOrder", spec := "fnStronglyConnectedNumbersInReverseTopologicalOrder", apart := false }
def FnStronglyConnectedNumbersInReverseTopologicalOrderSaid : Prop := fnStronglyConnectedNumbersInReverseTopologicalOrderRow.holds Try.pinned (OpenSpec.ofChange fnStronglyConnectedNumbersInReverseTopologicalOrderSpec)

/-- ITS FALSE NEIGHBOUR: 'it returns false'. Refute it at one input. -/
def fnStronglyConnectedNumbersInReverseTopologicalOrderWrong : ChangeSpec := { name := "fnStronglyConnectedNumbersInReverseTopologicalOrder", fn := fun _ => fun
  | [d] => { results := [.lit (.bool false)], args := [d] }
  | _ => none }
def FnStronglyConnectedNumbersInReverseTopologicalOrderWrongFalsely : Prop := fnStronglyConnectedNumbersInReverseTopologicalOrderRow.holds Try.pinned (OpenSpec.ofChange fnStronglyConnectedNumbersInReverseTopologicalOrderWrong)

/-- 'zzlaws_internal_history_b1.FnNewCausalOrderPastHoldsSelfAndGrowsAlongEdges': WHATEVER THE INPUT: true; the input reads as it did. -/
def fnNewCausalOrderPastHoldsSelfAndGrowsAlongEdgesSpec : ChangeSpec := { name := "fnNewCausalOrderPastHoldsSelfAndGrowsAlongEdges", fn := fun _ => fun
  | [d1, d2, d3, d4] => { results := [.lit (.bool true)], args := [d1, d2, d3, d4] }
  | _ => none }
def fnNewCausalOrderPastHoldsSelfAndGrowsAlongEdgesRow : OpenClaim := { program := "qxb6602016a", sum := "4f88ff46bda7aec38687dfa158f64f983daafd82d0df7557ffdc81faee9bbcb4", func := "example.com/holdfast/holdfast/zzlaws_internal_history_b1.FnNewCausalOrderPastHoldsSelfAndGrowsAlongEdges", spec := "fnNewCausalOrderPastHoldsSelfAndGrowsAlongEdges", apart := false }
def FnNewCausalOrderPastHoldsSelfAndGrowsAlongEdgesSaid : Prop := fnNewCausalOrderPastHoldsSelfAndGrowsAlongEdgesRow.holds Try.pinned (OpenSpec.ofChange fnNewCausalOrderPastHoldsSelfAndGrowsAlongEdgesSpec)

/-- ITS FALSE NEIGHBOUR: 'it returns false'. Refute it at one input. -/
def fnNewCausalOrderPastHoldsSelfAndGrowsAlongEdgesWrong : ChangeSpec := { name := "fnNewCausalOrderPastHoldsSelfAndGrowsAlongEdges", fn := fun _ => fun
  | [d1, d2, d3, d4] => { results := [.lit (.bool false)], args := [d1, d2, d3, d4] }
  | _ => none }
def FnNewCausalOrderPastHoldsSelfAndGrowsAlongEdgesWrongFalsely : Prop := fnNewCausalOrderPastHoldsSelfAndGrowsAlongEdgesRow.holds Try.pinned (OpenSpec.ofChange fnNewCausalOrderPastHoldsSelfAndGrowsAlongEdgesWrong)

/-- 'zzlaws_internal_history_b1.FnValueBeforeIsSomeValueAtOrAfterInPast': WHATEVER THE INPUT: true; the input reads as it did. -/
def fnValueBeforeIsSomeValueAtOrAfterInPastSpec : ChangeSpec := { name := "fnValueBeforeIsSomeValueAtOrAfterInPast", fn := fun _ => fun
  | [d1, d2, d3, d4, d5, d6] => { results := [.lit (.bool true)], args := [d1, d2, d3, d4, d5, d6] }
  | _ => none }
def fnValueBeforeIsSomeValueAtOrAfterInPastRow : OpenClaim := { program := "qxb6602016a", sum := "4f88ff46bda7aec38687dfa158f64f983daafd82d0df7557ffdc81faee9bbcb4", func := "example.com/holdfast/holdfast/zzlaws_internal_history_b1.FnValueBeforeIsSomeValueAtOrAfterInPast", spec := "fnValueBeforeIsSomeValueAtOrAfterInPast", apart := false }
def FnValueBeforeIsSomeValueAtOrAfterInPastSaid : Prop := fnValueBeforeIsSomeValueAtOrAfterInPastRow.holds Try.pinned (OpenSpec.ofChange fnValueBeforeIsSomeValueAtOrAfterInPastSpec)

/-- ITS FALSE NEIGHBOUR: 'it returns false'. Refute it at one input. -/
def fnValueBeforeIsSomeValueAtOrAfterInPastWrong : ChangeSpec := { name := "fnValueBeforeIsSomeValueAtOrAfterInPast", fn := fun _ => fun
  | [d1, d2, d3, d4, d5, d6] => { results := [.lit (.bool false)], args := [d1, d2, d3, d4, d5, d6] }
  | _ => none }
def FnValueBeforeIsSomeValueAtOrAfterInPastWrongFalsely : Prop := fnValueBeforeIsSomeValueAtOrAfterInPastRow.holds Try.pinned (OpenSpec.ofChange fnValueBeforeIsSomeValueAtOrAfterInPastWrong)

/-- 'zzlaws_internal_history_b1.FnValueBeforeIsReachabilityUnderSessionOrder': WHATEVER THE INPUT: true; the input reads as it did. -/
def fnValueBeforeIsReachabilityUnderSessionOrderSpec : ChangeSpec := { name := "fnValueBeforeIsReachabilityUnderSessionOrder", fn := fun _ => fun
  | [d1, d2, d3, d4, d5, d6] => { results := [.lit (.bool true)], args := [d1, d2, d3, d4, d5, d6] }
  | _ => none }
def fnValueBeforeIsReachabilityUnderSessionOrderRow : OpenClaim := { program := "qxb6602016a", sum := "4f88ff46bda7aec38687dfa158f64f983daafd82d0df7557ffdc81faee9bbcb4", func := "example.com/holdfast/holdfast/zzlaws_internal_history_b1.FnValueBeforeIsReachabilityUnderSessionOrder", spec := "fnValueBeforeIsReachabilityUnderSessionOrder", apart := false }
def FnValueBeforeIsReachabilityUnderSessionOrderSaid : Prop := fnValueBeforeIsReachabilityUnderSessionOrderRow.holds Try.pinned (OpenSpec.ofChange fnValueBeforeIsReachabilityUnderSessionOrderSpec)

/-- ITS FALSE NEIGHBOUR: 'it returns false'. Refute it at one input. -/
def fnValueBeforeIsReachabilityUnderSessionOrderWrong : ChangeSpec := { name := "fnValueBeforeIsReachabilityUnderSessionOrder", fn := fun _ => fun
  | [d1, d2, d3, d4, d5, d6] => { results := [.lit (.bool false)], args := [d1, d2, d3, d4, d5, d6] }
  | _ => none }
def FnValueBeforeIsReachabilityUnderSessionOrderWrongFalsely : Prop := fnValueBeforeIsReachabilityUnderSessionOrderRow.holds Try.pinned (OpenSpec.ofChange fnValueBeforeIsReachabilityUnderSessionOrderWrong)

end Rows
end Go.Proofs.Qxb6602016a
