/-
  No cell of these rows narrows 'for every input' (looked for: loops, veiled, ifaces, maps, wideKeys, modest, calm, conditions, laid).
  DERIVED. THE GIVEN ROWS OF THIS SEAT. 4 by the template 'for every input the law returns true; each argument reads behind the call as it read before'; 0 by the template 'total and deterministic' (their statements: Qxb6609219aTotals.lean).
  GIVEN WITH THE SEED: the statements are not yours to turn. If you find one false, say at which input.
  Laid BY PROGRAM, IN A SANDBOX (cutbox-rows.mjs): the forced cells as the released guide's own fill.sh prints them over the translation e91ed2f007c51bea… (all of the seat's roots in one cut). By AI agents, Wed Nov 11 2026. No macro, syntax, notation, axiom, sorry.
-/
import Derived.Test.Qxb6609219aChecked
import GoSem.Claim
import GoSem.ClaimJoined
import GoSem.ClaimMapViews
import Derived.JoinedTies
import Derived.KernelRfl
namespace Go.Proofs.Qxb6609219a
/- THE CELL 'sum', in the pinned program and in every row, IS THE sha256 OF THE DUMP (.gsa) THAT Qxb6609219aProg.lean LOADS. Nothing in Lean hashes anything: it is a label: what it is worth is what the hold of that sum in a sandbox is worth. -/
noncomputable def Try.pinned : Pinned := { name := "qxb6609219a", sum := "e91ed2f007c51bea9fb385c4664a59f518693c09317c39727048b47bc1ca2152", checked := Try.checked }
namespace Rows
def none {H : Type} : Left H := { results := [], args := [] }

/-- 'zzlaws_internal_realdata_b1.FnGapsPrefixSumsRebuildList': WHATEVER THE INPUT: true; the input reads as it did. -/
def fnGapsPrefixSumsRebuildListSpec : ChangeSpec := { name := "fnGapsPrefixSumsRebuildList", fn := fun _ => fun
  | [d] => { results := [.lit (.bool true)], args := [d] }
  | _ => none }
def fnGapsPrefixSumsRebuildListRow : OpenClaim := { program := "qxb6609219a", sum := "e91ed2f007c51bea9fb385c4664a59f518693c09317c39727048b47bc1ca2152", func := "example.com/septet/septet/zzlaws_internal_realdata_b1.FnGapsPrefixSumsRebuildList", spec := "fnGapsPrefixSumsRebuildList", apart := false }
def FnGapsPrefixSumsRebuildListSaid : Prop := fnGapsPrefixSumsRebuildListRow.holds Try.pinned (OpenSpec.ofChange fnGapsPrefixSumsRebuildListSpec)

/-- ITS FALSE NEIGHBOUR: 'it returns false'. Refute it at one input. -/
def fnGapsPrefixSumsRebuildListWrong : ChangeSpec := { name := "fnGapsPrefixSumsRebuildList", fn := fun _ => fun
  | [d] => { results := [.lit (.bool false)], args := [d] }
  | _ => none }
def FnGapsPrefixSumsRebuildListWrongFalsely : Prop := fnGapsPrefixSumsRebuildListRow.holds Try.pinned (OpenSpec.ofChange fnGapsPrefixSumsRebuildListWrong)

/-- 'zzlaws_internal_realdata_b1.FnGapsShiftMovesOnlyFirstGap': WHATEVER THE INPUT: true; the input reads as it did. -/
def fnGapsShiftMovesOnlyFirstGapSpec : ChangeSpec := { name := "fnGapsShiftMovesOnlyFirstGap", fn := fun _ => fun
  | [d1, d2] => { results := [.lit (.bool true)], args := [d1, d2] }
  | _ => none }
def fnGapsShiftMovesOnlyFirstGapRow : OpenClaim := { program := "qxb6609219a", sum := "e91ed2f007c51bea9fb385c4664a59f518693c09317c39727048b47bc1ca2152", func := "example.com/septet/septet/zzlaws_internal_realdata_b1.FnGapsShiftMovesOnlyFirstGap", spec := "fnGapsShiftMovesOnlyFirstGap", apart := false }
def FnGapsShiftMovesOnlyFirstGapSaid : Prop := fnGapsShiftMovesOnlyFirstGapRow.holds Try.pinned (OpenSpec.ofChange fnGapsShiftMovesOnlyFirstGapSpec)

/-- ITS FALSE NEIGHBOUR: 'it returns false'. Refute it at one input. -/
def fnGapsShiftMovesOnlyFirstGapWrong : ChangeSpec := { name := "fnGapsShiftMovesOnlyFirstGap", fn := fun _ => fun
  | [d1, d2] => { results := [.lit (.bool false)], args := [d1, d2] }
  | _ => none }
def FnGapsShiftMovesOnlyFirstGapWrongFalsely : Prop := fnGapsShiftMovesOnlyFirstGapRow.holds Try.pinned (OpenSpec.ofChange fnGapsShiftMovesOnlyFirstGapWrong)

/-- 'zzlaws_internal_realdata_b1.FnDifferencesPrefixSumsRebuildGaps': WHATEVER THE INPUT: true; the input reads as it did. -/
def fnDifferencesPrefixSumsRebuildGapsSpec : ChangeSpec := { name := "fnDifferencesPrefixSumsRebuildGaps", fn := fun _ => fun
  | [d] => { results := [.lit (.bool true)], args := [d] }
  | _ => none }
def fnDifferencesPrefixSumsRebuildGapsRow : OpenClaim := { program := "qxb6609219a", sum := "e91ed2f007c51bea9fb385c4664a59f518693c09317c39727048b47bc1ca2152", func := "example.com/septet/septet/zzlaws_internal_realdata_b1.FnDifferencesPrefixSumsRebuildGaps", spec := "fnDifferencesPrefixSumsRebuildGaps", apart := false }
def FnDifferencesPrefixSumsRebuildGapsSaid : Prop := fnDifferencesPrefixSumsRebuildGapsRow.holds Try.pinned (OpenSpec.ofChange fnDifferencesPrefixSumsRebuildGapsSpec)

/-- ITS FALSE NEIGHBOUR: 'it returns false'. Refute it at one input. -/
def fnDifferencesPrefixSumsRebuildGapsWrong : ChangeSpec := { name := "fnDifferencesPrefixSumsRebuildGaps", fn := fun _ => fun
  | [d] => { results := [.lit (.bool false)], args := [d] }
  | _ => none }
def FnDifferencesPrefixSumsRebuildGapsWrongFalsely : Prop := fnDifferencesPrefixSumsRebuildGapsRow.holds Try.pinned (OpenSpec.ofChange fnDifferencesPrefixSumsRebuildGapsWrong)

/-- 'zzlaws_internal_realdata_b1.FnDifferencesAreGapsReadSigned': WHATEVER THE INPUT: true; the input reads as it did. -/
def fnDifferencesAreGapsReadSignedSpec : ChangeSpec := { name := "fnDifferencesAreGapsReadSigned", fn := fun _ => fun
  | [d] => { results := [.lit (.bool true)], args := [d] }
  | _ => none }
def fnDifferencesAreGapsReadSignedRow : OpenClaim := { program := "qxb6609219a", sum := "e91ed2f007c51bea9fb385c4664a59f518693c09317c39727048b47bc1ca2152", func := "example.com/septet/septet/zzlaws_internal_realdata_b1.FnDifferencesAreGapsReadSigned", spec := "fnDifferencesAreGapsReadSigned", apart := false }
def FnDifferencesAreGapsReadSignedSaid : Prop := fnDifferencesAreGapsReadSignedRow.holds Try.pinned (OpenSpec.ofChange fnDifferencesAreGapsReadSignedSpec)

/-- ITS FALSE NEIGHBOUR: 'it returns false'. Refute it at one input. -/
def fnDifferencesAreGapsReadSignedWrong : ChangeSpec := { name := "fnDifferencesAreGapsReadSigned", fn := fun _ => fun
  | [d] => { results := [.lit (.bool false)], args := [d] }
  | _ => none }
def FnDifferencesAreGapsReadSignedWrongFalsely : Prop := fnDifferencesAreGapsReadSignedRow.holds Try.pinned (OpenSpec.ofChange fnDifferencesAreGapsReadSignedWrong)

end Rows
end Go.Proofs.Qxb6609219a
