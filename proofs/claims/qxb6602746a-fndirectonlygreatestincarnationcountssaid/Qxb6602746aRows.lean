/-
  No cell of these rows narrows 'for every input' (looked for: loops, veiled, ifaces, maps, wideKeys, modest, calm, conditions, laid).
  DERIVED. THE GIVEN ROWS OF THIS SEAT. 6 by the template 'for every input the law returns true; each argument reads behind the call as it read before'; 0 by the template 'total and deterministic' (their statements: Qxb6602746aTotals.lean).
  GIVEN WITH THE SEED: the statements are not yours to turn. If you find one false, say at which input.
  Laid BY PROGRAM, IN A SANDBOX (cutbox-rows.mjs): the forced cells as the released guide's own fill.sh prints them over the translation 4137a5e8d046ba82… (all of the seat's roots in one cut). By AI agents, Wed Nov 11 2026. No macro, syntax, notation, axiom, sorry.
-/
import Derived.Test.Qxb6602746aChecked
import GoSem.Claim
import GoSem.ClaimJoined
import GoSem.ClaimMapViews
import Derived.JoinedTies
import Derived.KernelRfl
namespace Go.Proofs.Qxb6602746a
/- THE CELL 'sum', in the pinned program and in every row, IS THE sha256 OF THE DUMP (.gsa) THAT Qxb6602746aProg.lean LOADS. Nothing in Lean hashes anything: it is a label: what it is worth is what the hold of that sum in a sandbox is worth. -/
noncomputable def Try.pinned : Pinned := { name := "qxb6602746a", sum := "4137a5e8d046ba8202bf24e2fc00903c090639245a12cd0e793a82c69cb0dbc0", checked := Try.checked }
namespace Rows
def none {H : Type} : Left H := { results := [], args := [] }

/-- 'zzlaws_internal_protocol_b1.FnArrivalsFirstMatchesNumberModel': WHATEVER THE INPUT: true; the input reads as it did. -/
def fnArrivalsFirstMatchesNumberModelSpec : ChangeSpec := { name := "fnArrivalsFirstMatchesNumberModel", fn := fun _ => fun
  | [d1, d2, d3, d4, d5] => { results := [.lit (.bool true)], args := [d1, d2, d3, d4, d5] }
  | _ => none }
def fnArrivalsFirstMatchesNumberModelRow : OpenClaim := { program := "qxb6602746a", sum := "4137a5e8d046ba8202bf24e2fc00903c090639245a12cd0e793a82c69cb0dbc0", func := "example.com/leadstone/leadstone/zzlaws_internal_protocol_b1.FnArrivalsFirstMatchesNumberModel", spec := "fnArrivalsFirstMatchesNumberModel", apart := false }
def FnArrivalsFirstMatchesNumberModelSaid : Prop := fnArrivalsFirstMatchesNumberModelRow.holds Try.pinned (OpenSpec.ofChange fnArrivalsFirstMatchesNumberModelSpec)

/-- ITS FALSE NEIGHBOUR: 'it returns false'. Refute it at one input. -/
def fnArrivalsFirstMatchesNumberModelWrong : ChangeSpec := { name := "fnArrivalsFirstMatchesNumberModel", fn := fun _ => fun
  | [d1, d2, d3, d4, d5] => { results := [.lit (.bool false)], args := [d1, d2, d3, d4, d5] }
  | _ => none }
def FnArrivalsFirstMatchesNumberModelWrongFalsely : Prop := fnArrivalsFirstMatchesNumberModelRow.holds Try.pinned (OpenSpec.ofChange fnArrivalsFirstMatchesNumberModelWrong)

/-- 'zzlaws_internal_protocol_b1.FnArrivalsFirstAnswersOnce': WHATEVER THE INPUT: true; the input reads as it did. -/
def fnArrivalsFirstAnswersOnceSpec : ChangeSpec := { name := "fnArrivalsFirstAnswersOnce", fn := fun _ => fun
  | [d1, d2, d3, d4, d5] => { results := [.lit (.bool true)], args := [d1, d2, d3, d4, d5] }
  | _ => none }
def fnArrivalsFirstAnswersOnceRow : OpenClaim := { program := "qxb6602746a", sum := "4137a5e8d046ba8202bf24e2fc00903c090639245a12cd0e793a82c69cb0dbc0", func := "example.com/leadstone/leadstone/zzlaws_internal_protocol_b1.FnArrivalsFirstAnswersOnce", spec := "fnArrivalsFirstAnswersOnce", apart := false }
def FnArrivalsFirstAnswersOnceSaid : Prop := fnArrivalsFirstAnswersOnceRow.holds Try.pinned (OpenSpec.ofChange fnArrivalsFirstAnswersOnceSpec)

/-- ITS FALSE NEIGHBOUR: 'it returns false'. Refute it at one input. -/
def fnArrivalsFirstAnswersOnceWrong : ChangeSpec := { name := "fnArrivalsFirstAnswersOnce", fn := fun _ => fun
  | [d1, d2, d3, d4, d5] => { results := [.lit (.bool false)], args := [d1, d2, d3, d4, d5] }
  | _ => none }
def FnArrivalsFirstAnswersOnceWrongFalsely : Prop := fnArrivalsFirstAnswersOnceRow.holds Try.pinned (OpenSpec.ofChange fnArrivalsFirstAnswersOnceWrong)

/-- 'zzlaws_internal_protocol_b1.FnArrivalsAnsweredStaysAnswered': WHATEVER THE INPUT: true; the input reads as it did. -/
def fnArrivalsAnsweredStaysAnsweredSpec : ChangeSpec := { name := "fnArrivalsAnsweredStaysAnswered", fn := fun _ => fun
  | [d1, d2, d3, d4] => { results := [.lit (.bool true)], args := [d1, d2, d3, d4] }
  | _ => none }
def fnArrivalsAnsweredStaysAnsweredRow : OpenClaim := { program := "qxb6602746a", sum := "4137a5e8d046ba8202bf24e2fc00903c090639245a12cd0e793a82c69cb0dbc0", func := "example.com/leadstone/leadstone/zzlaws_internal_protocol_b1.FnArrivalsAnsweredStaysAnswered", spec := "fnArrivalsAnsweredStaysAnswered", apart := false }
def FnArrivalsAnsweredStaysAnsweredSaid : Prop := fnArrivalsAnsweredStaysAnsweredRow.holds Try.pinned (OpenSpec.ofChange fnArrivalsAnsweredStaysAnsweredSpec)

/-- ITS FALSE NEIGHBOUR: 'it returns false'. Refute it at one input. -/
def fnArrivalsAnsweredStaysAnsweredWrong : ChangeSpec := { name := "fnArrivalsAnsweredStaysAnswered", fn := fun _ => fun
  | [d1, d2, d3, d4] => { results := [.lit (.bool false)], args := [d1, d2, d3, d4] }
  | _ => none }
def FnArrivalsAnsweredStaysAnsweredWrongFalsely : Prop := fnArrivalsAnsweredStaysAnsweredRow.holds Try.pinned (OpenSpec.ofChange fnArrivalsAnsweredStaysAnsweredWrong)

/-- 'zzlaws_internal_protocol_b1.FnDirectTakeMatchesLexMaxModel': WHATEVER THE INPUT: true; the input reads as it did. -/
def fnDirectTakeMatchesLexMaxModelSpec : ChangeSpec := { name := "fnDirectTakeMatchesLexMaxModel", fn := fun _ => fun
  | [d1, d2, d3, d4, d5] => { results := [.lit (.bool true)], args := [d1, d2, d3, d4, d5] }
  | _ => none }
def fnDirectTakeMatchesLexMaxModelRow : OpenClaim := { program := "qxb6602746a", sum := "4137a5e8d046ba8202bf24e2fc00903c090639245a12cd0e793a82c69cb0dbc0", func := "example.com/leadstone/leadstone/zzlaws_internal_protocol_b1.FnDirectTakeMatchesLexMaxModel", spec := "fnDirectTakeMatchesLexMaxModel", apart := false }
def FnDirectTakeMatchesLexMaxModelSaid : Prop := fnDirectTakeMatchesLexMaxModelRow.holds Try.pinned (OpenSpec.ofChange fnDirectTakeMatchesLexMaxModelSpec)

/-- ITS FALSE NEIGHBOUR: 'it returns false'. Refute it at one input. -/
def fnDirectTakeMatchesLexMaxModelWrong : ChangeSpec := { name := "fnDirectTakeMatchesLexMaxModel", fn := fun _ => fun
  | [d1, d2, d3, d4, d5] => { results := [.lit (.bool false)], args := [d1, d2, d3, d4, d5] }
  | _ => none }
def FnDirectTakeMatchesLexMaxModelWrongFalsely : Prop := fnDirectTakeMatchesLexMaxModelRow.holds Try.pinned (OpenSpec.ofChange fnDirectTakeMatchesLexMaxModelWrong)

/-- 'zzlaws_internal_protocol_b1.FnDirectTakeDuplicateChangesNothing': WHATEVER THE INPUT: true; the input reads as it did. -/
def fnDirectTakeDuplicateChangesNothingSpec : ChangeSpec := { name := "fnDirectTakeDuplicateChangesNothing", fn := fun _ => fun
  | [d1, d2, d3, d4, d5] => { results := [.lit (.bool true)], args := [d1, d2, d3, d4, d5] }
  | _ => none }
def fnDirectTakeDuplicateChangesNothingRow : OpenClaim := { program := "qxb6602746a", sum := "4137a5e8d046ba8202bf24e2fc00903c090639245a12cd0e793a82c69cb0dbc0", func := "example.com/leadstone/leadstone/zzlaws_internal_protocol_b1.FnDirectTakeDuplicateChangesNothing", spec := "fnDirectTakeDuplicateChangesNothing", apart := false }
def FnDirectTakeDuplicateChangesNothingSaid : Prop := fnDirectTakeDuplicateChangesNothingRow.holds Try.pinned (OpenSpec.ofChange fnDirectTakeDuplicateChangesNothingSpec)

/-- ITS FALSE NEIGHBOUR: 'it returns false'. Refute it at one input. -/
def fnDirectTakeDuplicateChangesNothingWrong : ChangeSpec := { name := "fnDirectTakeDuplicateChangesNothing", fn := fun _ => fun
  | [d1, d2, d3, d4, d5] => { results := [.lit (.bool false)], args := [d1, d2, d3, d4, d5] }
  | _ => none }
def FnDirectTakeDuplicateChangesNothingWrongFalsely : Prop := fnDirectTakeDuplicateChangesNothingRow.holds Try.pinned (OpenSpec.ofChange fnDirectTakeDuplicateChangesNothingWrong)

/-- 'zzlaws_internal_protocol_b1.FnDirectOnlyGreatestIncarnationCounts': WHATEVER THE INPUT: true; the input reads as it did. -/
def fnDirectOnlyGreatestIncarnationCountsSpec : ChangeSpec := { name := "fnDirectOnlyGreatestIncarnationCounts", fn := fun _ => fun
  | [d1, d2, d3, d4] => { results := [.lit (.bool true)], args := [d1, d2, d3, d4] }
  | _ => none }
def fnDirectOnlyGreatestIncarnationCountsRow : OpenClaim := { program := "qxb6602746a", sum := "4137a5e8d046ba8202bf24e2fc00903c090639245a12cd0e793a82c69cb0dbc0", func := "example.com/leadstone/leadstone/zzlaws_internal_protocol_b1.FnDirectOnlyGreatestIncarnationCounts", spec := "fnDirectOnlyGreatestIncarnationCounts", apart := false }
def FnDirectOnlyGreatestIncarnationCountsSaid : Prop := fnDirectOnlyGreatestIncarnationCountsRow.holds Try.pinned (OpenSpec.ofChange fnDirectOnlyGreatestIncarnationCountsSpec)

/-- ITS FALSE NEIGHBOUR: 'it returns false'. Refute it at one input. -/
def fnDirectOnlyGreatestIncarnationCountsWrong : ChangeSpec := { name := "fnDirectOnlyGreatestIncarnationCounts", fn := fun _ => fun
  | [d1, d2, d3, d4] => { results := [.lit (.bool false)], args := [d1, d2, d3, d4] }
  | _ => none }
def FnDirectOnlyGreatestIncarnationCountsWrongFalsely : Prop := fnDirectOnlyGreatestIncarnationCountsRow.holds Try.pinned (OpenSpec.ofChange fnDirectOnlyGreatestIncarnationCountsWrong)

end Rows
end Go.Proofs.Qxb6602746a
