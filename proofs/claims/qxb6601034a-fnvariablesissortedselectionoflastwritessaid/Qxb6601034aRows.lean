/-
  No cell of these rows narrows 'for every input' (looked for: loops, veiled, ifaces, maps, wideKeys, modest, calm, conditions, laid).
  DERIVED. THE GIVEN ROWS OF THIS SEAT. 4 by the template 'for every input the law returns true; each argument reads behind the call as it read before'; 0 by the template 'total and deterministic' (their statements: Qxb6601034aTotals.lean).
  GIVEN WITH THE SEED: the statements are not yours to turn. If you find one false, say at which input.
  Laid BY PROGRAM, IN A SANDBOX (cutbox-rows.mjs): the forced cells as the released guide's own fill.sh prints them over the translation 4d41b7d707e95862… (all of the seat's roots in one cut). By AI agents, Wed Nov 11 2026. No macro, syntax, notation, axiom, sorry.
-/
import Derived.Test.Qxb6601034aChecked
import GoSem.Claim
import GoSem.ClaimJoined
import GoSem.ClaimMapViews
import Derived.JoinedTies
import Derived.KernelRfl
namespace Go.Proofs.Qxb6601034a
/- THE CELL 'sum', in the pinned program and in every row, IS THE sha256 OF THE DUMP (.gsa) THAT Qxb6601034aProg.lean LOADS. Nothing in Lean hashes anything: it is a label: what it is worth is what the hold of that sum in a sandbox is worth. -/
noncomputable def Try.pinned : Pinned := { name := "qxb6601034a", sum := "4d41b7d707e958627ddb451fa5dd09cce9753e8eaf28f358ab22a8296cf0ff9d", checked := Try.checked }
namespace Rows
def none {H : Type} : Left H := { results := [], args := [] }

/-- 'zzlaws_internal_settings_b1.FnVariablesIsSortedSelectionOfLastWrites': WHATEVER THE INPUT: true; the input reads as it did. -/
def fnVariablesIsSortedSelectionOfLastWritesSpec : ChangeSpec := { name := "fnVariablesIsSortedSelectionOfLastWrites", fn := fun _ => fun
  | [d1, d2, d3, d4] => { results := [.lit (.bool true)], args := [d1, d2, d3, d4] }
  | _ => none }
def fnVariablesIsSortedSelectionOfLastWritesRow : OpenClaim := { program := "qxb6601034a", sum := "4d41b7d707e958627ddb451fa5dd09cce9753e8eaf28f358ab22a8296cf0ff9d", func := "example.com/dragoman/dragoman/zzlaws_internal_settings_b1.FnVariablesIsSortedSelectionOfLastWrites", spec := "fnVariablesIsSortedSelectionOfLastWrites", recurses := true, apart := false }
def FnVariablesIsSortedSelectionOfLastWritesSaid : Prop := fnVariablesIsSortedSelectionOfLastWritesRow.holds Try.pinned (OpenSpec.ofChange fnVariablesIsSortedSelectionOfLastWritesSpec)

/-- ITS FALSE NEIGHBOUR: 'it returns false'. Refute it at one input. -/
def fnVariablesIsSortedSelectionOfLastWritesWrong : ChangeSpec := { name := "fnVariablesIsSortedSelectionOfLastWrites", fn := fun _ => fun
  | [d1, d2, d3, d4] => { results := [.lit (.bool false)], args := [d1, d2, d3, d4] }
  | _ => none }
def FnVariablesIsSortedSelectionOfLastWritesWrongFalsely : Prop := fnVariablesIsSortedSelectionOfLastWritesRow.holds Try.pinned (OpenSpec.ofChange fnVariablesIsSortedSelectionOfLastWritesWrong)

/-- 'zzlaws_internal_settings_b1.FnVariablesPartitionsFlagsBySource': WHATEVER THE INPUT: true; the input reads as it did. -/
def fnVariablesPartitionsFlagsBySourceSpec : ChangeSpec := { name := "fnVariablesPartitionsFlagsBySource", fn := fun _ => fun
  | [d1, d2, d3] => { results := [.lit (.bool true)], args := [d1, d2, d3] }
  | _ => none }
def fnVariablesPartitionsFlagsBySourceRow : OpenClaim := { program := "qxb6601034a", sum := "4d41b7d707e958627ddb451fa5dd09cce9753e8eaf28f358ab22a8296cf0ff9d", func := "example.com/dragoman/dragoman/zzlaws_internal_settings_b1.FnVariablesPartitionsFlagsBySource", spec := "fnVariablesPartitionsFlagsBySource", recurses := true, apart := false }
def FnVariablesPartitionsFlagsBySourceSaid : Prop := fnVariablesPartitionsFlagsBySourceRow.holds Try.pinned (OpenSpec.ofChange fnVariablesPartitionsFlagsBySourceSpec)

/-- ITS FALSE NEIGHBOUR: 'it returns false'. Refute it at one input. -/
def fnVariablesPartitionsFlagsBySourceWrong : ChangeSpec := { name := "fnVariablesPartitionsFlagsBySource", fn := fun _ => fun
  | [d1, d2, d3] => { results := [.lit (.bool false)], args := [d1, d2, d3] }
  | _ => none }
def FnVariablesPartitionsFlagsBySourceWrongFalsely : Prop := fnVariablesPartitionsFlagsBySourceRow.holds Try.pinned (OpenSpec.ofChange fnVariablesPartitionsFlagsBySourceWrong)

/-- 'zzlaws_internal_settings_b1.FnQuotedMatchesRunLengthModel': WHATEVER THE INPUT: true; the input reads as it did. -/
def fnQuotedMatchesRunLengthModelSpec : ChangeSpec := { name := "fnQuotedMatchesRunLengthModel", fn := fun _ => fun
  | [d] => { results := [.lit (.bool true)], args := [d] }
  | _ => none }
def fnQuotedMatchesRunLengthModelRow : OpenClaim := { program := "qxb6601034a", sum := "4d41b7d707e958627ddb451fa5dd09cce9753e8eaf28f358ab22a8296cf0ff9d", func := "example.com/dragoman/dragoman/zzlaws_internal_settings_b1.FnQuotedMatchesRunLengthModel", spec := "fnQuotedMatchesRunLengthModel", inPlace := ["internal/abi.NoEscape"], apart := false }
def FnQuotedMatchesRunLengthModelSaid : Prop := fnQuotedMatchesRunLengthModelRow.holds Try.pinned (OpenSpec.ofChange fnQuotedMatchesRunLengthModelSpec)

/-- ITS FALSE NEIGHBOUR: 'it returns false'. Refute it at one input. -/
def fnQuotedMatchesRunLengthModelWrong : ChangeSpec := { name := "fnQuotedMatchesRunLengthModel", fn := fun _ => fun
  | [d] => { results := [.lit (.bool false)], args := [d] }
  | _ => none }
def FnQuotedMatchesRunLengthModelWrongFalsely : Prop := fnQuotedMatchesRunLengthModelRow.holds Try.pinned (OpenSpec.ofChange fnQuotedMatchesRunLengthModelWrong)

/-- 'zzlaws_internal_settings_b1.FnQuotedInvertsQuoting': WHATEVER THE INPUT: true; the input reads as it did. -/
def fnQuotedInvertsQuotingSpec : ChangeSpec := { name := "fnQuotedInvertsQuoting", fn := fun _ => fun
  | [d1, d2, d3] => { results := [.lit (.bool true)], args := [d1, d2, d3] }
  | _ => none }
def fnQuotedInvertsQuotingRow : OpenClaim := { program := "qxb6601034a", sum := "4d41b7d707e958627ddb451fa5dd09cce9753e8eaf28f358ab22a8296cf0ff9d", func := "example.com/dragoman/dragoman/zzlaws_internal_settings_b1.FnQuotedInvertsQuoting", spec := "fnQuotedInvertsQuoting", inPlace := ["internal/abi.NoEscape"], apart := false }
def FnQuotedInvertsQuotingSaid : Prop := fnQuotedInvertsQuotingRow.holds Try.pinned (OpenSpec.ofChange fnQuotedInvertsQuotingSpec)

/-- ITS FALSE NEIGHBOUR: 'it returns false'. Refute it at one input. -/
def fnQuotedInvertsQuotingWrong : ChangeSpec := { name := "fnQuotedInvertsQuoting", fn := fun _ => fun
  | [d1, d2, d3] => { results := [.lit (.bool false)], args := [d1, d2, d3] }
  | _ => none }
def FnQuotedInvertsQuotingWrongFalsely : Prop := fnQuotedInvertsQuotingRow.holds Try.pinned (OpenSpec.ofChange fnQuotedInvertsQuotingWrong)

end Rows
end Go.Proofs.Qxb6601034a
