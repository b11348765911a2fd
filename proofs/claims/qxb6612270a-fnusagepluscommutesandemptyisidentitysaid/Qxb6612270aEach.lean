/-
  'eachFigure' at plus: four calls, their operands read in whatever order.
-/
import Derived.Test.Qxb6612270aEachParts
import Derived.Deep.RegionHeld3
namespace Go.Proofs.Qxb6612270a
open Go.RowKit Fl
set_option linter.unusedVariables false

set_option maxHeartbeats 4000000 in
theorem each_any (u0 u1 u2 u3 v0 v1 v2 v3 : Option Addr) (a0 a1 a2 b0 b1 b2 : Option Int) (a3 b3 : Option Nat) (w : World)
    (hu0 : PtI w u0 a0) (hu1 : PtI w u1 a1) (hu2 : PtI w u2 a2) (hu3 : PtF w u3 a3) (hv0 : PtI w v0 b0) (hv1 : PtI w v1 b1) (hv2 : PtI w v2 b2) (hv3 : PtF w v3 b3) (hi : NoInf a3 b3) :
    Calls Try.prog 12 #[.agg #[.pointer u0, .pointer u1, .pointer u2, .pointer u3], .agg #[.pointer v0, .pointer v1, .pointer v2, .pointer v3], .func (.func 13) #[] #[], .func (.func 14) #[] #[]] w fun e w' =>
      ∃ r0 r1 r2 r3 z, e = .returned (.agg #[.pointer r0, .pointer r1, .pointer r2, .pointer r3]) ∧ PtI w' r0 (addI a0 b0) ∧ PtI w' r1 (addI a1 b1) ∧ PtI w' r2 (addI a2 b2) ∧ PtF w' r3 z ∧ RelF a3 b3 z ∧ Later w w' := by
  have HU0 : Hid (PtI w u0 a0) := hu0
  have HU1 : Hid (PtI w u1 a1) := hu1
  have HU2 : Hid (PtI w u2 a2) := hu2
  have HU3 : Hid (PtF w u3 a3) := hu3
  have HV0 : Hid (PtI w v0 b0) := hv0
  have HV1 : Hid (PtI w v1 b1) := hv1
  have HV2 : Hid (PtI w v2 b2) := hv2
  have HV3 : Hid (PtF w v3 b3) := hv3
  have HI : Hid (NoInf a3 b3) := hi
  have HS : Hid (Sx w u0 u1 u2 u3 v0 v1 v2 v3 _) := Sx.start w u0 u1 u2 u3 v0 v1 v2 v3
  clear hu0 hu1 hu2 hu3 hv0 hv1 hv2 hv3 hi
  go_enter Try.func12, Try.ntmps12
  go_wp2
  go_region_held3 (fun w' => w'.cell? ⟨w.heap.size, 0, none⟩ = some (.pointer u0) ∧ w'.cell? ⟨w.heap.size, 1, none⟩ = some (.pointer u1) ∧ w'.cell? ⟨w.heap.size, 2, none⟩ = some (.pointer u2) ∧ w'.cell? ⟨w.heap.size, 3, none⟩ = some (.pointer u3) ∧ w'.cell? ⟨w.heap.size + 1, 0, none⟩ = some (.pointer v0) ∧ w'.cell? ⟨w.heap.size + 1, 1, none⟩ = some (.pointer v1) ∧ w'.cell? ⟨w.heap.size + 1, 2, none⟩ = some (.pointer v2) ∧ w'.cell? ⟨w.heap.size + 1, 3, none⟩ = some (.pointer v3) ∧ w'.cell? ⟨w.heap.size + 1 + 1, 0, none⟩ = some (.pointer (ptrAt w' ⟨w.heap.size + 1 + 1, 0, none⟩)) ∧ w'.cell? ⟨w.heap.size + 1 + 1, 1, none⟩ = some (.pointer (ptrAt w' ⟨w.heap.size + 1 + 1, 1, none⟩)) ∧ w'.cell? ⟨w.heap.size + 1 + 1, 2, none⟩ = some (.pointer (ptrAt w' ⟨w.heap.size + 1 + 1, 2, none⟩)) ∧ w'.cell? ⟨w.heap.size + 1 + 1, 3, none⟩ = some (.pointer (ptrAt w' ⟨w.heap.size + 1 + 1, 3, none⟩)) ∧ w'.frozen? ⟨w.heap.size + 1 + 1, 0, none⟩ = false ∧ w'.frozen? ⟨w.heap.size + 1 + 1, 1, none⟩ = false ∧ w'.frozen? ⟨w.heap.size + 1 + 1, 2, none⟩ = false ∧ w'.frozen? ⟨w.heap.size + 1 + 1, 3, none⟩ = false ∧ Later w w') (first | exact HS.out | exact Sx.keep (by assumption) (by assumption) | exact Sx.store (Sx.store (Sx.store (Sx.store (by assumption) _ _) _ _) _ _) _ _) (first
    | (go_at_call_of 13 u0; refine (plusI_any u0 v0 a0 b0 _ (HU0.out.keep (Sx.later (by assumption))) (HV0.out.keep (Sx.later (by assumption)))).mono ?_; rintro e w2 ⟨r0, rfl, hr0, hl0⟩)
    | (go_at_call_of 13 u1; refine (plusI_any u1 v1 a1 b1 _ (HU1.out.keep (Sx.later (by assumption))) (HV1.out.keep (Sx.later (by assumption)))).mono ?_; rintro e w2 ⟨r1, rfl, hr1, hl1⟩)
    | (go_at_call_of 13 u2; refine (plusI_any u2 v2 a2 b2 _ (HU2.out.keep (Sx.later (by assumption))) (HV2.out.keep (Sx.later (by assumption)))).mono ?_; rintro e w2 ⟨r2, rfl, hr2, hl2⟩)
    | (go_at_call 14; refine (plusF_any u3 v3 a3 b3 _ (HU3.out.keep (Sx.later (by assumption))) (HV3.out.keep (Sx.later (by assumption))) HI.out).mono ?_; rintro e w2 ⟨r3, z, rfl, hr3, hz3, hl3⟩))
  obtain ⟨W, hW⟩ : ∃ W, W = (((w2.setCell ⟨w.heap.size + 1 + 1, 0, none⟩ (.pointer r0)).setCell ⟨w.heap.size + 1 + 1, 1, none⟩ (.pointer r1)).setCell ⟨w.heap.size + 1 + 1, 2, none⟩ (.pointer r2)).setCell ⟨w.heap.size + 1 + 1, 3, none⟩ (.pointer r3) := ⟨_, rfl⟩
  obtain ⟨f1, f2, f3, f4⟩ := Sx.final (Sx.keep hl3 (Sx.keep hl2 (Sx.keep hl1 (Sx.keep hl0 HS.out)))) r0 r1 r2 r3 hW
  rw [← hW]
  have R0 : Hid (PtI W r0 (addI a0 b0)) := f1 _ _ (hr0.keep ((hl1.trans hl2).trans hl3))
  have R1 : Hid (PtI W r1 (addI a1 b1)) := f1 _ _ (hr1.keep (hl2.trans hl3))
  have R2 : Hid (PtI W r2 (addI a2 b2)) := f1 _ _ (hr2.keep hl3)
  have R3 : Hid (PtF W r3 z) := f2 _ _ hr3
  have RL : Hid (Later w W) := f3
  obtain ⟨g0, g1, g2, g3⟩ := f4
  clear hW f1 f2 f3 hr0 hr1 hr2 hr3 hl0 hl1 hl2 hl3
  go_wp2
  exact bodyPost_ret (v := .agg #[.pointer r0, .pointer r1, .pointer r2, .pointer r3]) (by simp [results, Try.results12, go_sem, g0, g1, g2, g3]) rfl ⟨r0, r1, r2, r3, z, rfl, R0.out, R1.out, R2.out, R3.out, hz3, RL.out⟩
end Go.Proofs.Qxb6612270a
