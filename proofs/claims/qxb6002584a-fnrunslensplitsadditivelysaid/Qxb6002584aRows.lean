/-
  No cell of these rows narrows 'for every input' (looked for: loops, veiled, ifaces, maps, wideKeys, modest, calm, conditions, laid).
  DERIVED. THE GIVEN ROWS OF THIS SEAT. 2 by the template 'for every input the law returns true; each argument reads behind the call as it read before'; 0 by the template 'total and deterministic' (their statements: Qxb6002584aTotals.lean).
  GIVEN WITH THE SEED: the statements are not yours to turn. If you find one false, say at which input.
  Laid BY PROGRAM, IN A SANDBOX (cutbox-rows.mjs): the forced cells as the released guide's own fill.sh prints them over the translation d9c215378b50f0b0… (all of the seat's roots in one cut). By AI agents, Wed Nov 11 2026. No macro, syntax, notation, axiom, sorry.
-/
import Derived.Test.Qxb6002584aChecked
import GoSem.Claim
import GoSem.ClaimJoined
import GoSem.ClaimMapViews
import Derived.JoinedTies
import Derived.KernelRfl
namespace Go.Proofs.Qxb6002584a
/- THE CELL 'sum', in the pinned program and in every row, IS THE sha256 OF THE DUMP (.gsa) THAT Qxb6002584aProg.lean LOADS. Nothing in Lean hashes anything: it is a label: what it is worth is what the hold of that sum in a sandbox is worth. -/
noncomputable def Try.pinned : Pinned := { name := "qxb6002584a", sum := "d9c215378b50f0b064d69d5d798e6fb14451e688b50455eeeed9cbc5b3a8452e", checked := Try.checked }
namespace Rows
def none {H : Type} : Left H := { results := [], args := [] }

/-- 'zzlaws_internal_output_b1.FnRunsLenIsSpanMinusGaps': WHATEVER THE INPUT: true; the input reads as it did. -/
def fnRunsLenIsSpanMinusGapsSpec : ChangeSpec := { name := "fnRunsLenIsSpanMinusGaps", fn := fun _ => fun
  | [d] => { results := [.lit (.bool true)], args := [d] }
  | _ => none }
def fnRunsLenIsSpanMinusGapsRow : OpenClaim := { program := "qxb6002584a", sum := "d9c215378b50f0b064d69d5d798e6fb14451e688b50455eeeed9cbc5b3a8452e", func := "example.com/wardkeep/wardkeep/zzlaws_internal_output_b1.FnRunsLenIsSpanMinusGaps", spec := "fnRunsLenIsSpanMinusGaps", apart := false }
def FnRunsLenIsSpanMinusGapsSaid : Prop := fnRunsLenIsSpanMinusGapsRow.holds Try.pinned (OpenSpec.ofChange fnRunsLenIsSpanMinusGapsSpec)

/-- ITS FALSE NEIGHBOUR: 'it returns false'. Refute it at one input. -/
def fnRunsLenIsSpanMinusGapsWrong : ChangeSpec := { name := "fnRunsLenIsSpanMinusGaps", fn := fun _ => fun
  | [d] => { results := [.lit (.bool false)], args := [d] }
  | _ => none }
def FnRunsLenIsSpanMinusGapsWrongFalsely : Prop := fnRunsLenIsSpanMinusGapsRow.holds Try.pinned (OpenSpec.ofChange fnRunsLenIsSpanMinusGapsWrong)

/-- 'zzlaws_internal_output_b1.FnRunsLenSplitsAdditively': WHATEVER THE INPUT: true; the input reads as it did. -/
def fnRunsLenSplitsAdditivelySpec : ChangeSpec := { name := "fnRunsLenSplitsAdditively", fn := fun _ => fun
  | [d1, d2] => { results := [.lit (.bool true)], args := [d1, d2] }
  | _ => none }
def fnRunsLenSplitsAdditivelyRow : OpenClaim := { program := "qxb6002584a", sum := "d9c215378b50f0b064d69d5d798e6fb14451e688b50455eeeed9cbc5b3a8452e", func := "example.com/wardkeep/wardkeep/zzlaws_internal_output_b1.FnRunsLenSplitsAdditively", spec := "fnRunsLenSplitsAdditively", apart := false }
def FnRunsLenSplitsAdditivelySaid : Prop := fnRunsLenSplitsAdditivelyRow.holds Try.pinned (OpenSpec.ofChange fnRunsLenSplitsAdditivelySpec)

/-- ITS FALSE NEIGHBOUR: 'it returns false'. Refute it at one input. -/
def fnRunsLenSplitsAdditivelyWrong : ChangeSpec := { name := "fnRunsLenSplitsAdditively", fn := fun _ => fun
  | [d1, d2] => { results := [.lit (.bool false)], args := [d1, d2] }
  | _ => none }
def FnRunsLenSplitsAdditivelyWrongFalsely : Prop := fnRunsLenSplitsAdditivelyRow.holds Try.pinned (OpenSpec.ofChange fnRunsLenSplitsAdditivelyWrong)

end Rows
end Go.Proofs.Qxb6002584a
