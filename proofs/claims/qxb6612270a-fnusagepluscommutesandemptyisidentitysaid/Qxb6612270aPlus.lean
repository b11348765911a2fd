/-
  'Usage.Plus'.
-/
import Derived.Test.Qxb6612270aEach
namespace Go.Proofs.Qxb6612270a
open Go.RowKit Fl
set_option linter.unusedVariables false

theorem Sx.start0 (w : World) (u0 u1 u2 u3 v0 v1 v2 v3 : Option Addr) :
    Sx w u0 u1 u2 u3 v0 v1 v2 v3 (((w.alloc (.cells #[.pointer u0, .pointer u1, .pointer u2, .pointer u3] 29)).alloc (.cells #[.pointer v0, .pointer v1, .pointer v2, .pointer v3] 29)).alloc (.cells #[.pointer none, .pointer none, .pointer none, .pointer none] 29)) := by
  have hl : Later w (((w.alloc (.cells #[.pointer u0, .pointer u1, .pointer u2, .pointer u3] 29)).alloc (.cells #[.pointer v0, .pointer v1, .pointer v2, .pointer v3] 29)).alloc (.cells #[.pointer none, .pointer none, .pointer none, .pointer none] 29)) :=
    (((Below.refl _ _).alloc (Nat.le_refl _) _).alloc (by simp) _).alloc (by simp; omega) _
  refine ⟨?_, ?_, ?_, ?_, ?_, ?_, ?_, ?_, ?_, ?_, ?_, ?_, ?_, ?_, ?_, ?_, hl⟩ <;> simp [go_sem, ptrAt]

set_option maxHeartbeats 1000000 in
theorem plus_any (u0 u1 u2 u3 v0 v1 v2 v3 : Option Addr) (a0 a1 a2 b0 b1 b2 : Option Int) (a3 b3 : Option Nat) (w : World)
    (hu0 : PtI w u0 a0) (hu1 : PtI w u1 a1) (hu2 : PtI w u2 a2) (hu3 : PtF w u3 a3) (hv0 : PtI w v0 b0) (hv1 : PtI w v1 b1) (hv2 : PtI w v2 b2) (hv3 : PtF w v3 b3) (hi : NoInf a3 b3) :
    Calls Try.prog 8 #[.agg #[.pointer u0, .pointer u1, .pointer u2, .pointer u3], .agg #[.pointer v0, .pointer v1, .pointer v2, .pointer v3]] w fun e w' =>
      ∃ r0 r1 r2 r3 z, e = .returned (.agg #[.pointer r0, .pointer r1, .pointer r2, .pointer r3]) ∧ PtI w' r0 (addI a0 b0) ∧ PtI w' r1 (addI a1 b1) ∧ PtI w' r2 (addI a2 b2) ∧ PtF w' r3 z ∧ RelF a3 b3 z ∧ Later w w' := by
  have HS : Hid (Sx w u0 u1 u2 u3 v0 v1 v2 v3 _) := Sx.start0 w u0 u1 u2 u3 v0 v1 v2 v3
  have hL := HS.out.later
  have HU0 : Hid (PtI _ u0 a0) := hu0.keep hL
  have HU1 : Hid (PtI _ u1 a1) := hu1.keep hL
  have HU2 : Hid (PtI _ u2 a2) := hu2.keep hL
  have HU3 : Hid (PtF _ u3 a3) := hu3.keep hL
  have HV0 : Hid (PtI _ v0 b0) := hv0.keep hL
  have HV1 : Hid (PtI _ v1 b1) := hv1.keep hL
  have HV2 : Hid (PtI _ v2 b2) := hv2.keep hL
  have HV3 : Hid (PtF _ v3 b3) := hv3.keep hL
  have HI : Hid (NoInf a3 b3) := hi
  clear hu0 hu1 hu2 hu3 hv0 hv1 hv2 hv3 hi hL
  go_enter Try.func8, Try.ntmps8
  go_wp2_with (go_at_call 12; refine (each_any u0 u1 u2 u3 v0 v1 v2 v3 a0 a1 a2 b0 b1 b2 a3 b3 _ HU0.out HU1.out HU2.out HU3.out HV0.out HV1.out HV2.out HV3.out HI.out).mono ?_; rintro e w2 ⟨r0, r1, r2, r3, z, rfl, hr0, hr1, hr2, hr3, hz3, hl⟩; have HS2 : Hid (Sx w u0 u1 u2 u3 v0 v1 v2 v3 w2) := Sx.keep hl HS.out; obtain ⟨_, _, _, _, _, _, _, _, e0, e1, e2, e3, f0, f1, f2, f3, _⟩ := HS2.out)
  obtain ⟨W, hW⟩ : ∃ W, W = (((w2.setCell ⟨w.heap.size + 1 + 1, 0, none⟩ (.pointer r0)).setCell ⟨w.heap.size + 1 + 1, 1, none⟩ (.pointer r1)).setCell ⟨w.heap.size + 1 + 1, 2, none⟩ (.pointer r2)).setCell ⟨w.heap.size + 1 + 1, 3, none⟩ (.pointer r3) := ⟨_, rfl⟩
  obtain ⟨k1, k2, k3, k4⟩ := Sx.final HS2.out r0 r1 r2 r3 hW
  rw [← hW]
  obtain ⟨g0, g1, g2, g3⟩ := k4
  exact bodyPost_ret (v := .agg #[.pointer r0, .pointer r1, .pointer r2, .pointer r3]) (by simp [results, Try.results8, go_sem, g0, g1, g2, g3]) rfl ⟨r0, r1, r2, r3, z, rfl, k1 _ _ hr0, k1 _ _ hr1, k1 _ _ hr2, k2 _ _ hr3, hz3, k3⟩
end Go.Proofs.Qxb6612270a
