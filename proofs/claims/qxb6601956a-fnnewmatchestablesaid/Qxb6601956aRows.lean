/-
  No cell of these rows narrows 'for every input' (looked for: loops, veiled, ifaces, maps, wideKeys, modest, calm, conditions, laid).
  DERIVED. THE GIVEN ROWS OF THIS SEAT. 6 by the template 'for every input the law returns true; each argument reads behind the call as it read before'; 0 by the template 'total and deterministic' (their statements: Qxb6601956aTotals.lean).
  GIVEN WITH THE SEED: the statements are not yours to turn. If you find one false, say at which input.
  Laid BY PROGRAM, IN A SANDBOX (cutbox-rows.mjs): the forced cells as the released guide's own fill.sh prints them over the translation 7640a4698535f41d… (all of the seat's roots in one cut). By AI agents, Wed Nov 11 2026. No macro, syntax, notation, axiom, sorry.
-/
import Derived.Test.Qxb6601956aChecked
import GoSem.Claim
import GoSem.ClaimJoined
import GoSem.ClaimMapViews
import Derived.JoinedTies
import Derived.KernelRfl
namespace Go.Proofs.Qxb6601956a
/- THE CELL 'sum', in the pinned program and in every row, IS THE sha256 OF THE DUMP (.gsa) THAT Qxb6601956aProg.lean LOADS. Nothing in Lean hashes anything: it is a label: what it is worth is what the hold of that sum in a sandbox is worth. -/
noncomputable def Try.pinned : Pinned := { name := "qxb6601956a", sum := "7640a4698535f41dc5a422f15369b201241d2f965778e83b96179d473bf4c230", checked := Try.checked }
namespace Rows
def none {H : Type} : Left H := { results := [], args := [] }

/-- 'zzlaws_internal_forecast_b1.FnGridMatchesFilter': WHATEVER THE INPUT: true; the input reads as it did. -/
def fnGridMatchesFilterSpec : ChangeSpec := { name := "fnGridMatchesFilter", fn := fun _ => fun
  | [d1, d2] => { results := [.lit (.bool true)], args := [d1, d2] }
  | _ => none }
def fnGridMatchesFilterRow : OpenClaim := { program := "qxb6601956a", sum := "7640a4698535f41dc5a422f15369b201241d2f965778e83b96179d473bf4c230", func := "example.com/nobiru/nobiru/zzlaws_internal_forecast_b1.FnGridMatchesFilter", spec := "fnGridMatchesFilter", apart := false }
def FnGridMatchesFilterSaid : Prop := fnGridMatchesFilterRow.holds Try.pinned (OpenSpec.ofChange fnGridMatchesFilterSpec)

/-- ITS FALSE NEIGHBOUR: 'it returns false'. Refute it at one input. -/
def fnGridMatchesFilterWrong : ChangeSpec := { name := "fnGridMatchesFilter", fn := fun _ => fun
  | [d1, d2] => { results := [.lit (.bool false)], args := [d1, d2] }
  | _ => none }
def FnGridMatchesFilterWrongFalsely : Prop := fnGridMatchesFilterRow.holds Try.pinned (OpenSpec.ofChange fnGridMatchesFilterWrong)

/-- 'zzlaws_internal_forecast_b1.FnGridBoundedMonotone': WHATEVER THE INPUT: true; the input reads as it did. -/
def fnGridBoundedMonotoneSpec : ChangeSpec := { name := "fnGridBoundedMonotone", fn := fun _ => fun
  | [d1, d2] => { results := [.lit (.bool true)], args := [d1, d2] }
  | _ => none }
def fnGridBoundedMonotoneRow : OpenClaim := { program := "qxb6601956a", sum := "7640a4698535f41dc5a422f15369b201241d2f965778e83b96179d473bf4c230", func := "example.com/nobiru/nobiru/zzlaws_internal_forecast_b1.FnGridBoundedMonotone", spec := "fnGridBoundedMonotone", apart := false }
def FnGridBoundedMonotoneSaid : Prop := fnGridBoundedMonotoneRow.holds Try.pinned (OpenSpec.ofChange fnGridBoundedMonotoneSpec)

/-- ITS FALSE NEIGHBOUR: 'it returns false'. Refute it at one input. -/
def fnGridBoundedMonotoneWrong : ChangeSpec := { name := "fnGridBoundedMonotone", fn := fun _ => fun
  | [d1, d2] => { results := [.lit (.bool false)], args := [d1, d2] }
  | _ => none }
def FnGridBoundedMonotoneWrongFalsely : Prop := fnGridBoundedMonotoneRow.holds Try.pinned (OpenSpec.ofChange fnGridBoundedMonotoneWrong)

/-- 'zzlaws_internal_forecast_b1.FnCandidatesMatchTable': WHATEVER THE INPUT: true; the input reads as it did. -/
def fnCandidatesMatchTableSpec : ChangeSpec := { name := "fnCandidatesMatchTable", fn := fun _ => fun
  | [d1, d2, d3, d4, d5, d6, d7, d8] => { results := [.lit (.bool true)], args := [d1, d2, d3, d4, d5, d6, d7, d8] }
  | _ => none }
def fnCandidatesMatchTableRow : OpenClaim := { program := "qxb6601956a", sum := "7640a4698535f41dc5a422f15369b201241d2f965778e83b96179d473bf4c230", func := "example.com/nobiru/nobiru/zzlaws_internal_forecast_b1.FnCandidatesMatchTable", spec := "fnCandidatesMatchTable", apart := false }
def FnCandidatesMatchTableSaid : Prop := fnCandidatesMatchTableRow.holds Try.pinned (OpenSpec.ofChange fnCandidatesMatchTableSpec)

/-- ITS FALSE NEIGHBOUR: 'it returns false'. Refute it at one input. -/
def fnCandidatesMatchTableWrong : ChangeSpec := { name := "fnCandidatesMatchTable", fn := fun _ => fun
  | [d1, d2, d3, d4, d5, d6, d7, d8] => { results := [.lit (.bool false)], args := [d1, d2, d3, d4, d5, d6, d7, d8] }
  | _ => none }
def FnCandidatesMatchTableWrongFalsely : Prop := fnCandidatesMatchTableRow.holds Try.pinned (OpenSpec.ofChange fnCandidatesMatchTableWrong)

/-- 'zzlaws_internal_forecast_b1.FnCandidatesNonEmptyDistinctInRange': WHATEVER THE INPUT: true; the input reads as it did. -/
def fnCandidatesNonEmptyDistinctInRangeSpec : ChangeSpec := { name := "fnCandidatesNonEmptyDistinctInRange", fn := fun _ => fun
  | [d1, d2, d3, d4, d5, d6, d7, d8] => { results := [.lit (.bool true)], args := [d1, d2, d3, d4, d5, d6, d7, d8] }
  | _ => none }
def fnCandidatesNonEmptyDistinctInRangeRow : OpenClaim := { program := "qxb6601956a", sum := "7640a4698535f41dc5a422f15369b201241d2f965778e83b96179d473bf4c230", func := "example.com/nobiru/nobiru/zzlaws_internal_forecast_b1.FnCandidatesNonEmptyDistinctInRange", spec := "fnCandidatesNonEmptyDistinctInRange", apart := false }
def FnCandidatesNonEmptyDistinctInRangeSaid : Prop := fnCandidatesNonEmptyDistinctInRangeRow.holds Try.pinned (OpenSpec.ofChange fnCandidatesNonEmptyDistinctInRangeSpec)

/-- ITS FALSE NEIGHBOUR: 'it returns false'. Refute it at one input. -/
def fnCandidatesNonEmptyDistinctInRangeWrong : ChangeSpec := { name := "fnCandidatesNonEmptyDistinctInRange", fn := fun _ => fun
  | [d1, d2, d3, d4, d5, d6, d7, d8] => { results := [.lit (.bool false)], args := [d1, d2, d3, d4, d5, d6, d7, d8] }
  | _ => none }
def FnCandidatesNonEmptyDistinctInRangeWrongFalsely : Prop := fnCandidatesNonEmptyDistinctInRangeRow.holds Try.pinned (OpenSpec.ofChange fnCandidatesNonEmptyDistinctInRangeWrong)

/-- 'zzlaws_internal_forecast_b1.FnNewMatchesTable': WHATEVER THE INPUT: true; the input reads as it did. -/
def fnNewMatchesTableSpec : ChangeSpec := { name := "fnNewMatchesTable", fn := fun _ => fun
  | [d1, d2, d3, d4, d5, d6, d7, d8] => { results := [.lit (.bool true)], args := [d1, d2, d3, d4, d5, d6, d7, d8] }
  | _ => none }
def fnNewMatchesTableRow : OpenClaim := { program := "qxb6601956a", sum := "7640a4698535f41dc5a422f15369b201241d2f965778e83b96179d473bf4c230", func := "example.com/nobiru/nobiru/zzlaws_internal_forecast_b1.FnNewMatchesTable", spec := "fnNewMatchesTable", apart := false }
def FnNewMatchesTableSaid : Prop := fnNewMatchesTableRow.holds Try.pinned (OpenSpec.ofChange fnNewMatchesTableSpec)

/-- ITS FALSE NEIGHBOUR: 'it returns false'. Refute it at one input. -/
def fnNewMatchesTableWrong : ChangeSpec := { name := "fnNewMatchesTable", fn := fun _ => fun
  | [d1, d2, d3, d4, d5, d6, d7, d8] => { results := [.lit (.bool false)], args := [d1, d2, d3, d4, d5, d6, d7, d8] }
  | _ => none }
def FnNewMatchesTableWrongFalsely : Prop := fnNewMatchesTableRow.holds Try.pinned (OpenSpec.ofChange fnNewMatchesTableWrong)

/-- 'zzlaws_internal_forecast_b1.FnNewStartsAtTieChoice': WHATEVER THE INPUT: true; the input reads as it did. -/
def fnNewStartsAtTieChoiceSpec : ChangeSpec := { name := "fnNewStartsAtTieChoice", fn := fun _ => fun
  | [d1, d2, d3, d4, d5, d6, d7, d8] => { results := [.lit (.bool true)], args := [d1, d2, d3, d4, d5, d6, d7, d8] }
  | _ => none }
def fnNewStartsAtTieChoiceRow : OpenClaim := { program := "qxb6601956a", sum := "7640a4698535f41dc5a422f15369b201241d2f965778e83b96179d473bf4c230", func := "example.com/nobiru/nobiru/zzlaws_internal_forecast_b1.FnNewStartsAtTieChoice", spec := "fnNewStartsAtTieChoice", apart := false }
def FnNewStartsAtTieChoiceSaid : Prop := fnNewStartsAtTieChoiceRow.holds Try.pinned (OpenSpec.ofChange fnNewStartsAtTieChoiceSpec)

/-- ITS FALSE NEIGHBOUR: 'it returns false'. Refute it at one input. -/
def fnNewStartsAtTieChoiceWrong : ChangeSpec := { name := "fnNewStartsAtTieChoice", fn := fun _ => fun
  | [d1, d2, d3, d4, d5, d6, d7, d8] => { results := [.lit (.bool false)], args := [d1, d2, d3, d4, d5, d6, d7, d8] }
  | _ => none }
def FnNewStartsAtTieChoiceWrongFalsely : Prop := fnNewStartsAtTieChoiceRow.holds Try.pinned (OpenSpec.ofChange fnNewStartsAtTieChoiceWrong)

end Rows
end Go.Proofs.Qxb6601956a
