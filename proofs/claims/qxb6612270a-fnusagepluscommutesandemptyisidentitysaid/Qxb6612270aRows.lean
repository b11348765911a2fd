/-
  No cell of these rows narrows 'for every input' (looked for: loops, veiled, ifaces, maps, wideKeys, modest, calm, conditions, laid).
  DERIVED. THE GIVEN ROWS OF THIS SEAT. 2 by the template 'for every input the law returns true; each argument reads behind the call as it read before'; 0 by the template 'total and deterministic' (their statements: Qxb6612270aTotals.lean).
  GIVEN WITH THE SEED: the statements are not yours to turn. If you find one false, say at which input.
  Laid BY PROGRAM, IN A SANDBOX (cutbox-rows.mjs): the forced cells as the released guide's own fill.sh prints them over the translation bb7b72ced117b55e… (all of the seat's roots in one cut). By AI agents, Wed Nov 11 2026. No macro, syntax, notation, axiom, sorry.
-/
import Derived.Test.Qxb6612270aChecked
import GoSem.Claim
import GoSem.ClaimJoined
import GoSem.ClaimMapViews
import Derived.JoinedTies
import Derived.KernelRfl
namespace Go.Proofs.Qxb6612270a
/- THE CELL 'sum', in the pinned program and in every row, IS THE sha256 OF THE DUMP (.gsa) THAT Qxb6612270aProg.lean LOADS. Nothing in Lean hashes anything: it is a label: what it is worth is what the hold of that sum in a sandbox is worth. -/
noncomputable def Try.pinned : Pinned := { name := "qxb6612270a", sum := "bb7b72ced117b55e673448b7a7aba9ac0b46844916f4114f7ce54eac6b80d59f", checked := Try.checked }
namespace Rows
def none {H : Type} : Left H := { results := [], args := [] }

/-- 'zzlaws_internal_agent_b1.FnUsagePlusExactSaturatingSum': WHATEVER THE INPUT: true; the input reads as it did. -/
def fnUsagePlusExactSaturatingSumSpec : ChangeSpec := { name := "fnUsagePlusExactSaturatingSum", fn := fun _ => fun
  | [d1, d2, d3, d4, d5, d6, d7, d8] => { results := [.lit (.bool true)], args := [d1, d2, d3, d4, d5, d6, d7, d8] }
  | _ => none }
def fnUsagePlusExactSaturatingSumRow : OpenClaim := { program := "qxb6612270a", sum := "bb7b72ced117b55e673448b7a7aba9ac0b46844916f4114f7ce54eac6b80d59f", func := "example.com/crankshaft/crankshaft/zzlaws_internal_agent_b1.FnUsagePlusExactSaturatingSum", spec := "fnUsagePlusExactSaturatingSum", inPlace := ["math.Float64bits", "math.Float64frombits"], unfollowed := true, recurses := true, apart := false }
def FnUsagePlusExactSaturatingSumSaid : Prop := fnUsagePlusExactSaturatingSumRow.holds Try.pinned (OpenSpec.ofChange fnUsagePlusExactSaturatingSumSpec)

/-- ITS FALSE NEIGHBOUR: 'it returns false'. Refute it at one input. -/
def fnUsagePlusExactSaturatingSumWrong : ChangeSpec := { name := "fnUsagePlusExactSaturatingSum", fn := fun _ => fun
  | [d1, d2, d3, d4, d5, d6, d7, d8] => { results := [.lit (.bool false)], args := [d1, d2, d3, d4, d5, d6, d7, d8] }
  | _ => none }
def FnUsagePlusExactSaturatingSumWrongFalsely : Prop := fnUsagePlusExactSaturatingSumRow.holds Try.pinned (OpenSpec.ofChange fnUsagePlusExactSaturatingSumWrong)

/-- 'zzlaws_internal_agent_b1.FnUsagePlusCommutesAndEmptyIsIdentity': WHATEVER THE INPUT: true; the input reads as it did. -/
def fnUsagePlusCommutesAndEmptyIsIdentitySpec : ChangeSpec := { name := "fnUsagePlusCommutesAndEmptyIsIdentity", fn := fun _ => fun
  | [d1, d2, d3, d4, d5, d6, d7, d8] => { results := [.lit (.bool true)], args := [d1, d2, d3, d4, d5, d6, d7, d8] }
  | _ => none }
def fnUsagePlusCommutesAndEmptyIsIdentityRow : OpenClaim := { program := "qxb6612270a", sum := "bb7b72ced117b55e673448b7a7aba9ac0b46844916f4114f7ce54eac6b80d59f", func := "example.com/crankshaft/crankshaft/zzlaws_internal_agent_b1.FnUsagePlusCommutesAndEmptyIsIdentity", spec := "fnUsagePlusCommutesAndEmptyIsIdentity", inPlace := ["math.Float64bits", "math.Float64frombits"], unfollowed := true, recurses := true, apart := false }
def FnUsagePlusCommutesAndEmptyIsIdentitySaid : Prop := fnUsagePlusCommutesAndEmptyIsIdentityRow.holds Try.pinned (OpenSpec.ofChange fnUsagePlusCommutesAndEmptyIsIdentitySpec)

/-- ITS FALSE NEIGHBOUR: 'it returns false'. Refute it at one input. -/
def fnUsagePlusCommutesAndEmptyIsIdentityWrong : ChangeSpec := { name := "fnUsagePlusCommutesAndEmptyIsIdentity", fn := fun _ => fun
  | [d1, d2, d3, d4, d5, d6, d7, d8] => { results := [.lit (.bool false)], args := [d1, d2, d3, d4, d5, d6, d7, d8] }
  | _ => none }
def FnUsagePlusCommutesAndEmptyIsIdentityWrongFalsely : Prop := fnUsagePlusCommutesAndEmptyIsIdentityRow.holds Try.pinned (OpenSpec.ofChange fnUsagePlusCommutesAndEmptyIsIdentityWrong)

end Rows
end Go.Proofs.Qxb6612270a
