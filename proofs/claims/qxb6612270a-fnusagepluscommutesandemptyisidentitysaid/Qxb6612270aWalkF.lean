/-
  THE WALK OF 'FnUsagePlusCommutesAndEmptyIsIdentity'.
-/
import Derived.Test.Qxb6612270aSame
namespace Go.Proofs.Qxb6612270a
open Go.RowKit Fl
set_option linter.unusedVariables false

theorem lt_of_four {w : World} {B : Nat} {v : Value} (h : w.cell? ⟨B, 0, none⟩ = some v) : B < w.heap.size := World.block_lt_of_cell? w _ h

set_option maxHeartbeats 4000000 in
theorem lawF_nil (p0 p1 p2 p4 p5 p6 p7 : Option Addr) (a0 a1 a2 b0 b1 b2 : Option Int) (b3 : Option Nat) (w : World)
    (h0 : PtI w p0 a0) (h1 : PtI w p1 a1) (h2 : PtI w p2 a2) (h3 : PtF w none none) (h4 : PtI w p4 b0) (h5 : PtI w p5 b1) (h6 : PtI w p6 b2) (h7 : PtF w p7 b3)  :
    Calls Try.prog 4 #[.pointer p0, .pointer p1, .pointer p2, .pointer none, .pointer p4, .pointer p5, .pointer p6, .pointer p7] w fun e w' => e = .returned (.bool true) ∧ Later w w' := by
  have H0 : Hid (PtI w p0 a0) := h0
  have H1 : Hid (PtI w p1 a1) := h1
  have H2 : Hid (PtI w p2 a2) := h2
  have H3 : Hid (PtF w none none) := h3
  have H4 : Hid (PtI w p4 b0) := h4
  have H5 : Hid (PtI w p5 b1) := h5
  have H6 : Hid (PtI w p6 b2) := h6
  have H7 : Hid (PtF w p7 b3) := h7
  have HI : Hid (NoInf none b3) := fun x y h => by cases h
  clear h0 h1 h2 h3 h4 h5 h6 h7 
  go_enter Try.func4, Try.ntmps4
  go_wp2_with (first | (go_at_call_of 6 p0; refine (cloneI_any p0 a0 _ (H0.out)).mono ?_; rintro e w1 ⟨q0, rfl, hq0, hl0⟩; have hL0 : Later w w1 := hl0) | (go_at_call_of 6 p1; refine (cloneI_any p1 a1 _ (H1.out.keep hL0)).mono ?_; rintro e w2 ⟨q1, rfl, hq1, hl1⟩; have hL1 : Later w w2 := hL0.trans hl1) | (go_at_call_of 6 p2; refine (cloneI_any p2 a2 _ (H2.out.keep hL1)).mono ?_; rintro e w3 ⟨q2, rfl, hq2, hl2⟩; have hL2 : Later w w3 := hL1.trans hl2) | (go_at_call_of 7 (none : Option Addr); refine (cloneF_any none none _ (H3.out.keep hL2)).mono ?_; rintro e w4 ⟨q3, rfl, hq3, hl3⟩; have hL3 : Later w w4 := hL2.trans hl3) | (go_at_call_of 6 p4; refine (cloneI_any p4 b0 _ (H4.out.keep hL3)).mono ?_; rintro e w5 ⟨q4, rfl, hq4, hl4⟩; have hL4 : Later w w5 := hL3.trans hl4) | (go_at_call_of 6 p5; refine (cloneI_any p5 b1 _ (H5.out.keep hL4)).mono ?_; rintro e w6 ⟨q5, rfl, hq5, hl5⟩; have hL5 : Later w w6 := hL4.trans hl5) | (go_at_call_of 6 p6; refine (cloneI_any p6 b2 _ (H6.out.keep hL5)).mono ?_; rintro e w7 ⟨q6, rfl, hq6, hl6⟩; have hL6 : Later w w7 := hL5.trans hl6) | (go_at_call_of 7 p7; refine (cloneF_any p7 b3 _ (H7.out.keep hL6)).mono ?_; rintro e w8 ⟨q7, rfl, hq7, hl7⟩; have hL7 : Later w w8 := hL6.trans hl7))
  clear H0 H1 H2 H3 H4 H5 H6 H7
  have G0 : Hid (PtI w8 q0 a0) := hq0.keep ((((((hl1.trans hl2).trans hl3).trans hl4).trans hl5).trans hl6).trans hl7)
  have G1 : Hid (PtI w8 q1 a1) := hq1.keep (((((hl2.trans hl3).trans hl4).trans hl5).trans hl6).trans hl7)
  have G2 : Hid (PtI w8 q2 a2) := hq2.keep ((((hl3.trans hl4).trans hl5).trans hl6).trans hl7)
  have G3 : Hid (PtF w8 q3 none) := hq3.keep (((hl4.trans hl5).trans hl6).trans hl7)
  have G4 : Hid (PtI w8 q4 b0) := hq4.keep ((hl5.trans hl6).trans hl7)
  have G5 : Hid (PtI w8 q5 b1) := hq5.keep (hl6.trans hl7)
  have G6 : Hid (PtI w8 q6 b2) := hq6.keep hl7
  have G7 : Hid (PtF w8 q7 b3) := hq7
  clear hq0 hl0 hq1 hl1 hq2 hl2 hq3 hl3 hq4 hl4 hq5 hl5 hq6 hl6 hq7 hl7 hL0 hL1 hL2 hL3 hL4 hL5 hL6
  have hA : Later w8 (((w8.alloc (.cells #[.pointer q0, .pointer q1, .pointer q2, .pointer q3] 29)).alloc (.cells #[.pointer q4, .pointer q5, .pointer q6, .pointer q7] 29)).alloc (.cells #[.pointer none, .pointer none, .pointer none, .pointer none] 29)) := (((Later.refl w8).alloc _).alloc _).alloc _
  have FU : Hid (Four (((w8.alloc (.cells #[.pointer q0, .pointer q1, .pointer q2, .pointer q3] 29)).alloc (.cells #[.pointer q4, .pointer q5, .pointer q6, .pointer q7] 29)).alloc (.cells #[.pointer none, .pointer none, .pointer none, .pointer none] 29)) w8.heap.size q0 q1 q2 q3) := by refine ⟨?_, ?_, ?_, ?_⟩ <;> simp [go_sem]
  have FV : Hid (Four (((w8.alloc (.cells #[.pointer q0, .pointer q1, .pointer q2, .pointer q3] 29)).alloc (.cells #[.pointer q4, .pointer q5, .pointer q6, .pointer q7] 29)).alloc (.cells #[.pointer none, .pointer none, .pointer none, .pointer none] 29)) (w8.heap.size + 1) q4 q5 q6 q7) := by refine ⟨?_, ?_, ?_, ?_⟩ <;> simp [go_sem]
  have FE : Hid (Four (((w8.alloc (.cells #[.pointer q0, .pointer q1, .pointer q2, .pointer q3] 29)).alloc (.cells #[.pointer q4, .pointer q5, .pointer q6, .pointer q7] 29)).alloc (.cells #[.pointer none, .pointer none, .pointer none, .pointer none] 29)) (w8.heap.size + 1 + 1) none none none none) := by refine ⟨?_, ?_, ?_, ?_⟩ <;> simp [go_sem]
  have K0 := G0.out.keep hA
  have K1 := G1.out.keep hA
  have K2 := G2.out.keep hA
  have K3 := G3.out.keep hA
  have K4 := G4.out.keep hA
  have K5 := G5.out.keep hA
  have K6 := G6.out.keep hA
  have K7 := G7.out.keep hA
  clear G0 G1 G2 G3 G4 G5 G6 G7
  -- the sum number 1
  refine (plus_any q0 q1 q2 q3 q4 q5 q6 q7 a0 a1 a2 b0 b1 b2 none b3 _ K0 K1 K2 K3 K4 K5 K6 K7 HI.out).mono ?_
  rintro e xw1 ⟨r10, r11, r12, r13, z1, rfl, m10, m11, m12, m13, hz1, hl⟩
  have hY : Later xw1 (xw1.alloc (.cells #[.pointer r10, .pointer r11, .pointer r12, .pointer r13] 29)) := (Later.refl _).alloc _
  have hX := hl.trans hY
  replace K0 := K0.keep hX
  replace K1 := K1.keep hX
  replace K2 := K2.keep hX
  replace K3 := K3.keep hX
  replace K4 := K4.keep hX
  replace K5 := K5.keep hX
  replace K6 := K6.keep hX
  replace K7 := K7.keep hX
  replace m10 := m10.keep hY
  replace m11 := m11.keep hY
  replace m12 := m12.keep hY
  replace m13 := m13.keep hY
  replace hA := hA.trans hX
  obtain ⟨cFU0, cFU1, cFU2, cFU3⟩ := FU.out.keep hl
  obtain ⟨cFV0, cFV1, cFV2, cFV3⟩ := FV.out.keep hl
  obtain ⟨cFE0, cFE1, cFE2, cFE3⟩ := FE.out.keep hl
  replace FU : Hid (Four _ w8.heap.size q0 q1 q2 q3) := FU.out.keep hX
  replace FV : Hid (Four _ (w8.heap.size + 1) q4 q5 q6 q7) := FV.out.keep hX
  replace FE : Hid (Four _ (w8.heap.size + 1 + 1) none none none none) := FE.out.keep hX
  have hsa1 : w8.heap.size < xw1.heap.size := lt_of_four cFU0
  have hsb1 : w8.heap.size + 1 < xw1.heap.size := lt_of_four cFV0
  have hsc1 : w8.heap.size + 1 + 1 < xw1.heap.size := lt_of_four cFE0
  have R1 : Hid (Four (xw1.alloc (.cells #[.pointer r10, .pointer r11, .pointer r12, .pointer r13] 29)) xw1.heap.size r10 r11 r12 r13) := by refine ⟨?_, ?_, ?_, ?_⟩ <;> simp [go_sem]
  clear hl hX hY
  go_wp2_with fail
  -- the sum number 2
  refine (plus_any q4 q5 q6 q7 q0 q1 q2 q3 b0 b1 b2 a0 a1 a2 b3 none _ K4 K5 K6 K7 K0 K1 K2 K3 HI.out.swap).mono ?_
  rintro e xw2 ⟨r20, r21, r22, r23, z2, rfl, m20, m21, m22, m23, hz2, hl⟩
  have hY : Later xw2 (xw2.alloc (.cells #[.pointer r20, .pointer r21, .pointer r22, .pointer r23] 29)) := (Later.refl _).alloc _
  have hX := hl.trans hY
  replace K0 := K0.keep hX
  replace K1 := K1.keep hX
  replace K2 := K2.keep hX
  replace K3 := K3.keep hX
  replace K4 := K4.keep hX
  replace K5 := K5.keep hX
  replace K6 := K6.keep hX
  replace K7 := K7.keep hX
  replace m10 := m10.keep hX
  replace m11 := m11.keep hX
  replace m12 := m12.keep hX
  replace m13 := m13.keep hX
  replace m20 := m20.keep hY
  replace m21 := m21.keep hY
  replace m22 := m22.keep hY
  replace m23 := m23.keep hY
  replace hA := hA.trans hX
  clear cFU0 cFU1 cFU2 cFU3 cFV0 cFV1 cFV2 cFV3 cFE0 cFE1 cFE2 cFE3
  obtain ⟨cFU0, cFU1, cFU2, cFU3⟩ := FU.out.keep hl
  obtain ⟨cFV0, cFV1, cFV2, cFV3⟩ := FV.out.keep hl
  obtain ⟨cFE0, cFE1, cFE2, cFE3⟩ := FE.out.keep hl
  obtain ⟨cR10, cR11, cR12, cR13⟩ := R1.out.keep hl
  replace FU : Hid (Four _ w8.heap.size q0 q1 q2 q3) := FU.out.keep hX
  replace FV : Hid (Four _ (w8.heap.size + 1) q4 q5 q6 q7) := FV.out.keep hX
  replace FE : Hid (Four _ (w8.heap.size + 1 + 1) none none none none) := FE.out.keep hX
  replace R1 : Hid (Four _ xw1.heap.size r10 r11 r12 r13) := R1.out.keep hX
  have hsa2 : w8.heap.size < xw2.heap.size := lt_of_four cFU0
  have hsb2 : w8.heap.size + 1 < xw2.heap.size := lt_of_four cFV0
  have hsc2 : w8.heap.size + 1 + 1 < xw2.heap.size := lt_of_four cFE0
  have hs21 : xw1.heap.size < xw2.heap.size := lt_of_four cR10
  have R2 : Hid (Four (xw2.alloc (.cells #[.pointer r20, .pointer r21, .pointer r22, .pointer r23] 29)) xw2.heap.size r20 r21 r22 r23) := by refine ⟨?_, ?_, ?_, ?_⟩ <;> simp [go_sem]
  clear hl hX hY
  go_wp2_with fail
  -- the sum number 3
  refine (plus_any q0 q1 q2 q3 none none none none a0 a1 a2 none none none none none _ K0 K1 K2 K3 (.inl ⟨rfl, rfl⟩) (.inl ⟨rfl, rfl⟩) (.inl ⟨rfl, rfl⟩) (.inl ⟨rfl, rfl⟩) (NoInf.right _)).mono ?_
  rintro e xw3 ⟨r30, r31, r32, r33, z3, rfl, m30, m31, m32, m33, hz3, hl⟩
  have hY : Later xw3 (xw3.alloc (.cells #[.pointer r30, .pointer r31, .pointer r32, .pointer r33] 29)) := (Later.refl _).alloc _
  have hX := hl.trans hY
  replace K0 := K0.keep hX
  replace K1 := K1.keep hX
  replace K2 := K2.keep hX
  replace K3 := K3.keep hX
  replace K4 := K4.keep hX
  replace K5 := K5.keep hX
  replace K6 := K6.keep hX
  replace K7 := K7.keep hX
  replace m10 := m10.keep hX
  replace m11 := m11.keep hX
  replace m12 := m12.keep hX
  replace m13 := m13.keep hX
  replace m20 := m20.keep hX
  replace m21 := m21.keep hX
  replace m22 := m22.keep hX
  replace m23 := m23.keep hX
  replace m30 := m30.keep hY
  replace m31 := m31.keep hY
  replace m32 := m32.keep hY
  replace m33 := m33.keep hY
  replace hA := hA.trans hX
  clear cFU0 cFU1 cFU2 cFU3 cFV0 cFV1 cFV2 cFV3 cFE0 cFE1 cFE2 cFE3 cR10 cR11 cR12 cR13
  obtain ⟨cFU0, cFU1, cFU2, cFU3⟩ := FU.out.keep hl
  obtain ⟨cFV0, cFV1, cFV2, cFV3⟩ := FV.out.keep hl
  obtain ⟨cFE0, cFE1, cFE2, cFE3⟩ := FE.out.keep hl
  obtain ⟨cR10, cR11, cR12, cR13⟩ := R1.out.keep hl
  obtain ⟨cR20, cR21, cR22, cR23⟩ := R2.out.keep hl
  replace FU : Hid (Four _ w8.heap.size q0 q1 q2 q3) := FU.out.keep hX
  replace FV : Hid (Four _ (w8.heap.size + 1) q4 q5 q6 q7) := FV.out.keep hX
  replace FE : Hid (Four _ (w8.heap.size + 1 + 1) none none none none) := FE.out.keep hX
  replace R1 : Hid (Four _ xw1.heap.size r10 r11 r12 r13) := R1.out.keep hX
  replace R2 : Hid (Four _ xw2.heap.size r20 r21 r22 r23) := R2.out.keep hX
  have hsa3 : w8.heap.size < xw3.heap.size := lt_of_four cFU0
  have hsb3 : w8.heap.size + 1 < xw3.heap.size := lt_of_four cFV0
  have hsc3 : w8.heap.size + 1 + 1 < xw3.heap.size := lt_of_four cFE0
  have hs31 : xw1.heap.size < xw3.heap.size := lt_of_four cR10
  have hs32 : xw2.heap.size < xw3.heap.size := lt_of_four cR20
  have R3 : Hid (Four (xw3.alloc (.cells #[.pointer r30, .pointer r31, .pointer r32, .pointer r33] 29)) xw3.heap.size r30 r31 r32 r33) := by refine ⟨?_, ?_, ?_, ?_⟩ <;> simp [go_sem]
  clear hl hX hY
  go_wp2_with fail
  -- the sum number 4
  refine (plus_any none none none none q0 q1 q2 q3 none none none a0 a1 a2 none none _ (.inl ⟨rfl, rfl⟩) (.inl ⟨rfl, rfl⟩) (.inl ⟨rfl, rfl⟩) (.inl ⟨rfl, rfl⟩) K0 K1 K2 K3 (NoInf.left _)).mono ?_
  rintro e xw4 ⟨r40, r41, r42, r43, z4, rfl, m40, m41, m42, m43, hz4, hl⟩
  have hY : Later xw4 (xw4.alloc (.cells #[.pointer r40, .pointer r41, .pointer r42, .pointer r43] 29)) := (Later.refl _).alloc _
  have hX := hl.trans hY
  replace K0 := K0.keep hX
  replace K1 := K1.keep hX
  replace K2 := K2.keep hX
  replace K3 := K3.keep hX
  replace K4 := K4.keep hX
  replace K5 := K5.keep hX
  replace K6 := K6.keep hX
  replace K7 := K7.keep hX
  replace m10 := m10.keep hX
  replace m11 := m11.keep hX
  replace m12 := m12.keep hX
  replace m13 := m13.keep hX
  replace m20 := m20.keep hX
  replace m21 := m21.keep hX
  replace m22 := m22.keep hX
  replace m23 := m23.keep hX
  replace m30 := m30.keep hX
  replace m31 := m31.keep hX
  replace m32 := m32.keep hX
  replace m33 := m33.keep hX
  replace m40 := m40.keep hY
  replace m41 := m41.keep hY
  replace m42 := m42.keep hY
  replace m43 := m43.keep hY
  replace hA := hA.trans hX
  clear cFU0 cFU1 cFU2 cFU3 cFV0 cFV1 cFV2 cFV3 cFE0 cFE1 cFE2 cFE3 cR10 cR11 cR12 cR13 cR20 cR21 cR22 cR23
  obtain ⟨cFU0, cFU1, cFU2, cFU3⟩ := FU.out.keep hl
  obtain ⟨cFV0, cFV1, cFV2, cFV3⟩ := FV.out.keep hl
  obtain ⟨cFE0, cFE1, cFE2, cFE3⟩ := FE.out.keep hl
  obtain ⟨cR10, cR11, cR12, cR13⟩ := R1.out.keep hl
  obtain ⟨cR20, cR21, cR22, cR23⟩ := R2.out.keep hl
  obtain ⟨cR30, cR31, cR32, cR33⟩ := R3.out.keep hl
  replace FU : Hid (Four _ w8.heap.size q0 q1 q2 q3) := FU.out.keep hX
  replace FV : Hid (Four _ (w8.heap.size + 1) q4 q5 q6 q7) := FV.out.keep hX
  replace FE : Hid (Four _ (w8.heap.size + 1 + 1) none none none none) := FE.out.keep hX
  replace R1 : Hid (Four _ xw1.heap.size r10 r11 r12 r13) := R1.out.keep hX
  replace R2 : Hid (Four _ xw2.heap.size r20 r21 r22 r23) := R2.out.keep hX
  replace R3 : Hid (Four _ xw3.heap.size r30 r31 r32 r33) := R3.out.keep hX
  have hsa4 : w8.heap.size < xw4.heap.size := lt_of_four cFU0
  have hsb4 : w8.heap.size + 1 < xw4.heap.size := lt_of_four cFV0
  have hsc4 : w8.heap.size + 1 + 1 < xw4.heap.size := lt_of_four cFE0
  have hs41 : xw1.heap.size < xw4.heap.size := lt_of_four cR10
  have hs42 : xw2.heap.size < xw4.heap.size := lt_of_four cR20
  have hs43 : xw3.heap.size < xw4.heap.size := lt_of_four cR30
  have R4 : Hid (Four (xw4.alloc (.cells #[.pointer r40, .pointer r41, .pointer r42, .pointer r43] 29)) xw4.heap.size r40 r41 r42 r43) := by refine ⟨?_, ?_, ?_, ?_⟩ <;> simp [go_sem]
  clear hl hX hY
  go_wp2_with fail
  have hE : Hid (Later w _) := hL7.trans hA
  rw [addI_comm b0 a0] at m20
  rw [addI_comm b1 a1] at m21
  rw [addI_comm b2 a2] at m22
  rw [addI_none a0] at m30
  rw [addI_none a1] at m31
  rw [addI_none a2] at m32
  refine (sameUsage_any r10 r11 r12 r13 r20 r21 r22 r23 _ _ _ z1 z2 _ m10 m11 m12 m13 m20 m21 m22 m23 (rel_same hz1 hz2 HI.out)).mono ?_
  rintro e y5 ⟨rfl, hl5⟩
  obtain ⟨g0, g1, g2, g3⟩ := R3.out.keep hl5
  obtain ⟨u0, u1, u2, u3⟩ := FU.out.keep hl5
  go_wp2_with fail
  refine (sameUsage_any r30 r31 r32 r33 q0 q1 q2 q3 _ _ _ z3 none _ (m30.keep hl5) (m31.keep hl5) (m32.keep hl5) (m33.keep hl5) (K0.keep hl5) (K1.keep hl5) (K2.keep hl5) (K3.keep hl5) (rel_right hz3)).mono ?_
  rintro e y6 ⟨rfl, hl6⟩
  have h56 := hl5.trans hl6
  obtain ⟨f0, f1, f2, f3⟩ := R4.out.keep h56
  obtain ⟨t0, t1, t2, t3⟩ := FU.out.keep h56
  go_wp2_with fail
  refine (sameUsage_any r40 r41 r42 r43 q0 q1 q2 q3 _ _ _ z4 none _ (m40.keep h56) (m41.keep h56) (m42.keep h56) (m43.keep h56) (K0.keep h56) (K1.keep h56) (K2.keep h56) (K3.keep h56) (rel_left hz4)).mono ?_
  rintro e y7 ⟨rfl, hl7'⟩
  go_wp2_with fail
  go_ret
  exact ⟨rfl, hE.out.trans (h56.trans hl7')⟩

set_option maxHeartbeats 4000000 in
theorem lawF_right (p0 p1 p2 p4 p5 p6 : Option Addr) (a0 a1 a2 b0 b1 b2 : Option Int) (c3 o3 x3 : Nat) (w : World)
    (h0 : PtI w p0 a0) (h1 : PtI w p1 a1) (h2 : PtI w p2 a2) (h3 : PtF w (some ⟨c3, o3, none⟩) (some x3)) (h4 : PtI w p4 b0) (h5 : PtI w p5 b1) (h6 : PtI w p6 b2) (h7 : PtF w none none)  :
    Calls Try.prog 4 #[.pointer p0, .pointer p1, .pointer p2, .pointer (some ⟨c3, o3, none⟩), .pointer p4, .pointer p5, .pointer p6, .pointer none] w fun e w' => e = .returned (.bool true) ∧ Later w w' := by
  have H0 : Hid (PtI w p0 a0) := h0
  have H1 : Hid (PtI w p1 a1) := h1
  have H2 : Hid (PtI w p2 a2) := h2
  have H3 : Hid (PtF w (some ⟨c3, o3, none⟩) (some x3)) := h3
  have H4 : Hid (PtI w p4 b0) := h4
  have H5 : Hid (PtI w p5 b1) := h5
  have H6 : Hid (PtI w p6 b2) := h6
  have H7 : Hid (PtF w none none) := h7
  have HI : Hid (NoInf (some x3) none) := fun x y _ h => by cases h
  clear h0 h1 h2 h3 h4 h5 h6 h7 
  go_enter Try.func4, Try.ntmps4
  go_wp2_with (first | (go_at_call_of 6 p0; refine (cloneI_any p0 a0 _ (H0.out)).mono ?_; rintro e w1 ⟨q0, rfl, hq0, hl0⟩; have hL0 : Later w w1 := hl0) | (go_at_call_of 6 p1; refine (cloneI_any p1 a1 _ (H1.out.keep hL0)).mono ?_; rintro e w2 ⟨q1, rfl, hq1, hl1⟩; have hL1 : Later w w2 := hL0.trans hl1) | (go_at_call_of 6 p2; refine (cloneI_any p2 a2 _ (H2.out.keep hL1)).mono ?_; rintro e w3 ⟨q2, rfl, hq2, hl2⟩; have hL2 : Later w w3 := hL1.trans hl2) | (go_at_call_of 7 c3; refine (cloneF_any (some ⟨c3, o3, none⟩) (some x3) _ (H3.out.keep hL2)).mono ?_; rintro e w4 ⟨q3, rfl, hq3, hl3⟩; have hL3 : Later w w4 := hL2.trans hl3) | (go_at_call_of 6 p4; refine (cloneI_any p4 b0 _ (H4.out.keep hL3)).mono ?_; rintro e w5 ⟨q4, rfl, hq4, hl4⟩; have hL4 : Later w w5 := hL3.trans hl4) | (go_at_call_of 6 p5; refine (cloneI_any p5 b1 _ (H5.out.keep hL4)).mono ?_; rintro e w6 ⟨q5, rfl, hq5, hl5⟩; have hL5 : Later w w6 := hL4.trans hl5) | (go_at_call_of 6 p6; refine (cloneI_any p6 b2 _ (H6.out.keep hL5)).mono ?_; rintro e w7 ⟨q6, rfl, hq6, hl6⟩; have hL6 : Later w w7 := hL5.trans hl6) | (go_at_call_of 7 (none : Option Addr); refine (cloneF_any none none _ (H7.out.keep hL6)).mono ?_; rintro e w8 ⟨q7, rfl, hq7, hl7⟩; have hL7 : Later w w8 := hL6.trans hl7))
  clear H0 H1 H2 H3 H4 H5 H6 H7
  have G0 : Hid (PtI w8 q0 a0) := hq0.keep ((((((hl1.trans hl2).trans hl3).trans hl4).trans hl5).trans hl6).trans hl7)
  have G1 : Hid (PtI w8 q1 a1) := hq1.keep (((((hl2.trans hl3).trans hl4).trans hl5).trans hl6).trans hl7)
  have G2 : Hid (PtI w8 q2 a2) := hq2.keep ((((hl3.trans hl4).trans hl5).trans hl6).trans hl7)
  have G3 : Hid (PtF w8 q3 (some x3)) := hq3.keep (((hl4.trans hl5).trans hl6).trans hl7)
  have G4 : Hid (PtI w8 q4 b0) := hq4.keep ((hl5.trans hl6).trans hl7)
  have G5 : Hid (PtI w8 q5 b1) := hq5.keep (hl6.trans hl7)
  have G6 : Hid (PtI w8 q6 b2) := hq6.keep hl7
  have G7 : Hid (PtF w8 q7 none) := hq7
  clear hq0 hl0 hq1 hl1 hq2 hl2 hq3 hl3 hq4 hl4 hq5 hl5 hq6 hl6 hq7 hl7 hL0 hL1 hL2 hL3 hL4 hL5 hL6
  have hA : Later w8 (((w8.alloc (.cells #[.pointer q0, .pointer q1, .pointer q2, .pointer q3] 29)).alloc (.cells #[.pointer q4, .pointer q5, .pointer q6, .pointer q7] 29)).alloc (.cells #[.pointer none, .pointer none, .pointer none, .pointer none] 29)) := (((Later.refl w8).alloc _).alloc _).alloc _
  have FU : Hid (Four (((w8.alloc (.cells #[.pointer q0, .pointer q1, .pointer q2, .pointer q3] 29)).alloc (.cells #[.pointer q4, .pointer q5, .pointer q6, .pointer q7] 29)).alloc (.cells #[.pointer none, .pointer none, .pointer none, .pointer none] 29)) w8.heap.size q0 q1 q2 q3) := by refine ⟨?_, ?_, ?_, ?_⟩ <;> simp [go_sem]
  have FV : Hid (Four (((w8.alloc (.cells #[.pointer q0, .pointer q1, .pointer q2, .pointer q3] 29)).alloc (.cells #[.pointer q4, .pointer q5, .pointer q6, .pointer q7] 29)).alloc (.cells #[.pointer none, .pointer none, .pointer none, .pointer none] 29)) (w8.heap.size + 1) q4 q5 q6 q7) := by refine ⟨?_, ?_, ?_, ?_⟩ <;> simp [go_sem]
  have FE : Hid (Four (((w8.alloc (.cells #[.pointer q0, .pointer q1, .pointer q2, .pointer q3] 29)).alloc (.cells #[.pointer q4, .pointer q5, .pointer q6, .pointer q7] 29)).alloc (.cells #[.pointer none, .pointer none, .pointer none, .pointer none] 29)) (w8.heap.size + 1 + 1) none none none none) := by refine ⟨?_, ?_, ?_, ?_⟩ <;> simp [go_sem]
  have K0 := G0.out.keep hA
  have K1 := G1.out.keep hA
  have K2 := G2.out.keep hA
  have K3 := G3.out.keep hA
  have K4 := G4.out.keep hA
  have K5 := G5.out.keep hA
  have K6 := G6.out.keep hA
  have K7 := G7.out.keep hA
  clear G0 G1 G2 G3 G4 G5 G6 G7
  -- the sum number 1
  refine (plus_any q0 q1 q2 q3 q4 q5 q6 q7 a0 a1 a2 b0 b1 b2 (some x3) none _ K0 K1 K2 K3 K4 K5 K6 K7 HI.out).mono ?_
  rintro e xw1 ⟨r10, r11, r12, r13, z1, rfl, m10, m11, m12, m13, hz1, hl⟩
  have hY : Later xw1 (xw1.alloc (.cells #[.pointer r10, .pointer r11, .pointer r12, .pointer r13] 29)) := (Later.refl _).alloc _
  have hX := hl.trans hY
  replace K0 := K0.keep hX
  replace K1 := K1.keep hX
  replace K2 := K2.keep hX
  replace K3 := K3.keep hX
  replace K4 := K4.keep hX
  replace K5 := K5.keep hX
  replace K6 := K6.keep hX
  replace K7 := K7.keep hX
  replace m10 := m10.keep hY
  replace m11 := m11.keep hY
  replace m12 := m12.keep hY
  replace m13 := m13.keep hY
  replace hA := hA.trans hX
  obtain ⟨cFU0, cFU1, cFU2, cFU3⟩ := FU.out.keep hl
  obtain ⟨cFV0, cFV1, cFV2, cFV3⟩ := FV.out.keep hl
  obtain ⟨cFE0, cFE1, cFE2, cFE3⟩ := FE.out.keep hl
  replace FU : Hid (Four _ w8.heap.size q0 q1 q2 q3) := FU.out.keep hX
  replace FV : Hid (Four _ (w8.heap.size + 1) q4 q5 q6 q7) := FV.out.keep hX
  replace FE : Hid (Four _ (w8.heap.size + 1 + 1) none none none none) := FE.out.keep hX
  have hsa1 : w8.heap.size < xw1.heap.size := lt_of_four cFU0
  have hsb1 : w8.heap.size + 1 < xw1.heap.size := lt_of_four cFV0
  have hsc1 : w8.heap.size + 1 + 1 < xw1.heap.size := lt_of_four cFE0
  have R1 : Hid (Four (xw1.alloc (.cells #[.pointer r10, .pointer r11, .pointer r12, .pointer r13] 29)) xw1.heap.size r10 r11 r12 r13) := by refine ⟨?_, ?_, ?_, ?_⟩ <;> simp [go_sem]
  clear hl hX hY
  go_wp2_with fail
  -- the sum number 2
  refine (plus_any q4 q5 q6 q7 q0 q1 q2 q3 b0 b1 b2 a0 a1 a2 none (some x3) _ K4 K5 K6 K7 K0 K1 K2 K3 HI.out.swap).mono ?_
  rintro e xw2 ⟨r20, r21, r22, r23, z2, rfl, m20, m21, m22, m23, hz2, hl⟩
  have hY : Later xw2 (xw2.alloc (.cells #[.pointer r20, .pointer r21, .pointer r22, .pointer r23] 29)) := (Later.refl _).alloc _
  have hX := hl.trans hY
  replace K0 := K0.keep hX
  replace K1 := K1.keep hX
  replace K2 := K2.keep hX
  replace K3 := K3.keep hX
  replace K4 := K4.keep hX
  replace K5 := K5.keep hX
  replace K6 := K6.keep hX
  replace K7 := K7.keep hX
  replace m10 := m10.keep hX
  replace m11 := m11.keep hX
  replace m12 := m12.keep hX
  replace m13 := m13.keep hX
  replace m20 := m20.keep hY
  replace m21 := m21.keep hY
  replace m22 := m22.keep hY
  replace m23 := m23.keep hY
  replace hA := hA.trans hX
  clear cFU0 cFU1 cFU2 cFU3 cFV0 cFV1 cFV2 cFV3 cFE0 cFE1 cFE2 cFE3
  obtain ⟨cFU0, cFU1, cFU2, cFU3⟩ := FU.out.keep hl
  obtain ⟨cFV0, cFV1, cFV2, cFV3⟩ := FV.out.keep hl
  obtain ⟨cFE0, cFE1, cFE2, cFE3⟩ := FE.out.keep hl
  obtain ⟨cR10, cR11, cR12, cR13⟩ := R1.out.keep hl
  replace FU : Hid (Four _ w8.heap.size q0 q1 q2 q3) := FU.out.keep hX
  replace FV : Hid (Four _ (w8.heap.size + 1) q4 q5 q6 q7) := FV.out.keep hX
  replace FE : Hid (Four _ (w8.heap.size + 1 + 1) none none none none) := FE.out.keep hX
  replace R1 : Hid (Four _ xw1.heap.size r10 r11 r12 r13) := R1.out.keep hX
  have hsa2 : w8.heap.size < xw2.heap.size := lt_of_four cFU0
  have hsb2 : w8.heap.size + 1 < xw2.heap.size := lt_of_four cFV0
  have hsc2 : w8.heap.size + 1 + 1 < xw2.heap.size := lt_of_four cFE0
  have hs21 : xw1.heap.size < xw2.heap.size := lt_of_four cR10
  have R2 : Hid (Four (xw2.alloc (.cells #[.pointer r20, .pointer r21, .pointer r22, .pointer r23] 29)) xw2.heap.size r20 r21 r22 r23) := by refine ⟨?_, ?_, ?_, ?_⟩ <;> simp [go_sem]
  clear hl hX hY
  go_wp2_with fail
  -- the sum number 3
  refine (plus_any q0 q1 q2 q3 none none none none a0 a1 a2 none none none (some x3) none _ K0 K1 K2 K3 (.inl ⟨rfl, rfl⟩) (.inl ⟨rfl, rfl⟩) (.inl ⟨rfl, rfl⟩) (.inl ⟨rfl, rfl⟩) (NoInf.right _)).mono ?_
  rintro e xw3 ⟨r30, r31, r32, r33, z3, rfl, m30, m31, m32, m33, hz3, hl⟩
  have hY : Later xw3 (xw3.alloc (.cells #[.pointer r30, .pointer r31, .pointer r32, .pointer r33] 29)) := (Later.refl _).alloc _
  have hX := hl.trans hY
  replace K0 := K0.keep hX
  replace K1 := K1.keep hX
  replace K2 := K2.keep hX
  replace K3 := K3.keep hX
  replace K4 := K4.keep hX
  replace K5 := K5.keep hX
  replace K6 := K6.keep hX
  replace K7 := K7.keep hX
  replace m10 := m10.keep hX
  replace m11 := m11.keep hX
  replace m12 := m12.keep hX
  replace m13 := m13.keep hX
  replace m20 := m20.keep hX
  replace m21 := m21.keep hX
  replace m22 := m22.keep hX
  replace m23 := m23.keep hX
  replace m30 := m30.keep hY
  replace m31 := m31.keep hY
  replace m32 := m32.keep hY
  replace m33 := m33.keep hY
  replace hA := hA.trans hX
  clear cFU0 cFU1 cFU2 cFU3 cFV0 cFV1 cFV2 cFV3 cFE0 cFE1 cFE2 cFE3 cR10 cR11 cR12 cR13
  obtain ⟨cFU0, cFU1, cFU2, cFU3⟩ := FU.out.keep hl
  obtain ⟨cFV0, cFV1, cFV2, cFV3⟩ := FV.out.keep hl
  obtain ⟨cFE0, cFE1, cFE2, cFE3⟩ := FE.out.keep hl
  obtain ⟨cR10, cR11, cR12, cR13⟩ := R1.out.keep hl
  obtain ⟨cR20, cR21, cR22, cR23⟩ := R2.out.keep hl
  replace FU : Hid (Four _ w8.heap.size q0 q1 q2 q3) := FU.out.keep hX
  replace FV : Hid (Four _ (w8.heap.size + 1) q4 q5 q6 q7) := FV.out.keep hX
  replace FE : Hid (Four _ (w8.heap.size + 1 + 1) none none none none) := FE.out.keep hX
  replace R1 : Hid (Four _ xw1.heap.size r10 r11 r12 r13) := R1.out.keep hX
  replace R2 : Hid (Four _ xw2.heap.size r20 r21 r22 r23) := R2.out.keep hX
  have hsa3 : w8.heap.size < xw3.heap.size := lt_of_four cFU0
  have hsb3 : w8.heap.size + 1 < xw3.heap.size := lt_of_four cFV0
  have hsc3 : w8.heap.size + 1 + 1 < xw3.heap.size := lt_of_four cFE0
  have hs31 : xw1.heap.size < xw3.heap.size := lt_of_four cR10
  have hs32 : xw2.heap.size < xw3.heap.size := lt_of_four cR20
  have R3 : Hid (Four (xw3.alloc (.cells #[.pointer r30, .pointer r31, .pointer r32, .pointer r33] 29)) xw3.heap.size r30 r31 r32 r33) := by refine ⟨?_, ?_, ?_, ?_⟩ <;> simp [go_sem]
  clear hl hX hY
  go_wp2_with fail
  -- the sum number 4
  refine (plus_any none none none none q0 q1 q2 q3 none none none a0 a1 a2 none (some x3) _ (.inl ⟨rfl, rfl⟩) (.inl ⟨rfl, rfl⟩) (.inl ⟨rfl, rfl⟩) (.inl ⟨rfl, rfl⟩) K0 K1 K2 K3 (NoInf.left _)).mono ?_
  rintro e xw4 ⟨r40, r41, r42, r43, z4, rfl, m40, m41, m42, m43, hz4, hl⟩
  have hY : Later xw4 (xw4.alloc (.cells #[.pointer r40, .pointer r41, .pointer r42, .pointer r43] 29)) := (Later.refl _).alloc _
  have hX := hl.trans hY
  replace K0 := K0.keep hX
  replace K1 := K1.keep hX
  replace K2 := K2.keep hX
  replace K3 := K3.keep hX
  replace K4 := K4.keep hX
  replace K5 := K5.keep hX
  replace K6 := K6.keep hX
  replace K7 := K7.keep hX
  replace m10 := m10.keep hX
  replace m11 := m11.keep hX
  replace m12 := m12.keep hX
  replace m13 := m13.keep hX
  replace m20 := m20.keep hX
  replace m21 := m21.keep hX
  replace m22 := m22.keep hX
  replace m23 := m23.keep hX
  replace m30 := m30.keep hX
  replace m31 := m31.keep hX
  replace m32 := m32.keep hX
  replace m33 := m33.keep hX
  replace m40 := m40.keep hY
  replace m41 := m41.keep hY
  replace m42 := m42.keep hY
  replace m43 := m43.keep hY
  replace hA := hA.trans hX
  clear cFU0 cFU1 cFU2 cFU3 cFV0 cFV1 cFV2 cFV3 cFE0 cFE1 cFE2 cFE3 cR10 cR11 cR12 cR13 cR20 cR21 cR22 cR23
  obtain ⟨cFU0, cFU1, cFU2, cFU3⟩ := FU.out.keep hl
  obtain ⟨cFV0, cFV1, cFV2, cFV3⟩ := FV.out.keep hl
  obtain ⟨cFE0, cFE1, cFE2, cFE3⟩ := FE.out.keep hl
  obtain ⟨cR10, cR11, cR12, cR13⟩ := R1.out.keep hl
  obtain ⟨cR20, cR21, cR22, cR23⟩ := R2.out.keep hl
  obtain ⟨cR30, cR31, cR32, cR33⟩ := R3.out.keep hl
  replace FU : Hid (Four _ w8.heap.size q0 q1 q2 q3) := FU.out.keep hX
  replace FV : Hid (Four _ (w8.heap.size + 1) q4 q5 q6 q7) := FV.out.keep hX
  replace FE : Hid (Four _ (w8.heap.size + 1 + 1) none none none none) := FE.out.keep hX
  replace R1 : Hid (Four _ xw1.heap.size r10 r11 r12 r13) := R1.out.keep hX
  replace R2 : Hid (Four _ xw2.heap.size r20 r21 r22 r23) := R2.out.keep hX
  replace R3 : Hid (Four _ xw3.heap.size r30 r31 r32 r33) := R3.out.keep hX
  have hsa4 : w8.heap.size < xw4.heap.size := lt_of_four cFU0
  have hsb4 : w8.heap.size + 1 < xw4.heap.size := lt_of_four cFV0
  have hsc4 : w8.heap.size + 1 + 1 < xw4.heap.size := lt_of_four cFE0
  have hs41 : xw1.heap.size < xw4.heap.size := lt_of_four cR10
  have hs42 : xw2.heap.size < xw4.heap.size := lt_of_four cR20
  have hs43 : xw3.heap.size < xw4.heap.size := lt_of_four cR30
  have R4 : Hid (Four (xw4.alloc (.cells #[.pointer r40, .pointer r41, .pointer r42, .pointer r43] 29)) xw4.heap.size r40 r41 r42 r43) := by refine ⟨?_, ?_, ?_, ?_⟩ <;> simp [go_sem]
  clear hl hX hY
  go_wp2_with fail
  have hE : Hid (Later w _) := hL7.trans hA
  rw [addI_comm b0 a0] at m20
  rw [addI_comm b1 a1] at m21
  rw [addI_comm b2 a2] at m22
  rw [addI_none a0] at m30
  rw [addI_none a1] at m31
  rw [addI_none a2] at m32
  refine (sameUsage_any r10 r11 r12 r13 r20 r21 r22 r23 _ _ _ z1 z2 _ m10 m11 m12 m13 m20 m21 m22 m23 (rel_same hz1 hz2 HI.out)).mono ?_
  rintro e y5 ⟨rfl, hl5⟩
  obtain ⟨g0, g1, g2, g3⟩ := R3.out.keep hl5
  obtain ⟨u0, u1, u2, u3⟩ := FU.out.keep hl5
  go_wp2_with fail
  refine (sameUsage_any r30 r31 r32 r33 q0 q1 q2 q3 _ _ _ z3 (some x3) _ (m30.keep hl5) (m31.keep hl5) (m32.keep hl5) (m33.keep hl5) (K0.keep hl5) (K1.keep hl5) (K2.keep hl5) (K3.keep hl5) (rel_right hz3)).mono ?_
  rintro e y6 ⟨rfl, hl6⟩
  have h56 := hl5.trans hl6
  obtain ⟨f0, f1, f2, f3⟩ := R4.out.keep h56
  obtain ⟨t0, t1, t2, t3⟩ := FU.out.keep h56
  go_wp2_with fail
  refine (sameUsage_any r40 r41 r42 r43 q0 q1 q2 q3 _ _ _ z4 (some x3) _ (m40.keep h56) (m41.keep h56) (m42.keep h56) (m43.keep h56) (K0.keep h56) (K1.keep h56) (K2.keep h56) (K3.keep h56) (rel_left hz4)).mono ?_
  rintro e y7 ⟨rfl, hl7'⟩
  go_wp2_with fail
  go_ret
  exact ⟨rfl, hE.out.trans (h56.trans hl7')⟩

set_option maxHeartbeats 4000000 in
theorem lawF_both (p0 p1 p2 p4 p5 p6 : Option Addr) (a0 a1 a2 b0 b1 b2 : Option Int) (c3 o3 x3 c7 o7 x7 : Nat) (w : World)
    (h0 : PtI w p0 a0) (h1 : PtI w p1 a1) (h2 : PtI w p2 a2) (h3 : PtF w (some ⟨c3, o3, none⟩) (some x3)) (h4 : PtI w p4 b0) (h5 : PtI w p5 b1) (h6 : PtI w p6 b2) (h7 : PtF w (some ⟨c7, o7, none⟩) (some x7))  (hx : w.cell? ⟨c3, o3, none⟩ = some (.float .f64 x3)) (hy : w.cell? ⟨c7, o7, none⟩ = some (.float .f64 x7)) (ix : infB x3 = false) (iy : infB x7 = false) :
    Calls Try.prog 4 #[.pointer p0, .pointer p1, .pointer p2, .pointer (some ⟨c3, o3, none⟩), .pointer p4, .pointer p5, .pointer p6, .pointer (some ⟨c7, o7, none⟩)] w fun e w' => e = .returned (.bool true) ∧ Later w w' := by
  have H0 : Hid (PtI w p0 a0) := h0
  have H1 : Hid (PtI w p1 a1) := h1
  have H2 : Hid (PtI w p2 a2) := h2
  have H3 : Hid (PtF w (some ⟨c3, o3, none⟩) (some x3)) := h3
  have H4 : Hid (PtI w p4 b0) := h4
  have H5 : Hid (PtI w p5 b1) := h5
  have H6 : Hid (PtI w p6 b2) := h6
  have H7 : Hid (PtF w (some ⟨c7, o7, none⟩) (some x7)) := h7
  have HI : Hid (NoInf (some x3) (some x7)) := fun x y h1 h2 => by cases h1; cases h2; exact ⟨ix, iy⟩
  have HIX : Hid (infB x3 = false) := ix
  have HIY : Hid (infB x7 = false) := iy
  clear h0 h1 h2 h3 h4 h5 h6 h7  ix iy
  go_enter Try.func4, Try.ntmps4
  go_wp2_with (first | (go_at_call_of 5 x3; refine (isInf5_is x3 false HIX.out _).mono ?_; rintro e w' ⟨rfl, rfl⟩) | (go_at_call_of 5 x7; refine (isInf5_is x7 false HIY.out _).mono ?_; rintro e w' ⟨rfl, rfl⟩) | (go_at_call_of 6 p0; refine (cloneI_any p0 a0 _ (H0.out)).mono ?_; rintro e w1 ⟨q0, rfl, hq0, hl0⟩; have hL0 : Later w w1 := hl0) | (go_at_call_of 6 p1; refine (cloneI_any p1 a1 _ (H1.out.keep hL0)).mono ?_; rintro e w2 ⟨q1, rfl, hq1, hl1⟩; have hL1 : Later w w2 := hL0.trans hl1) | (go_at_call_of 6 p2; refine (cloneI_any p2 a2 _ (H2.out.keep hL1)).mono ?_; rintro e w3 ⟨q2, rfl, hq2, hl2⟩; have hL2 : Later w w3 := hL1.trans hl2) | (go_at_call_of 7 c3; refine (cloneF_any (some ⟨c3, o3, none⟩) (some x3) _ (H3.out.keep hL2)).mono ?_; rintro e w4 ⟨q3, rfl, hq3, hl3⟩; have hL3 : Later w w4 := hL2.trans hl3) | (go_at_call_of 6 p4; refine (cloneI_any p4 b0 _ (H4.out.keep hL3)).mono ?_; rintro e w5 ⟨q4, rfl, hq4, hl4⟩; have hL4 : Later w w5 := hL3.trans hl4) | (go_at_call_of 6 p5; refine (cloneI_any p5 b1 _ (H5.out.keep hL4)).mono ?_; rintro e w6 ⟨q5, rfl, hq5, hl5⟩; have hL5 : Later w w6 := hL4.trans hl5) | (go_at_call_of 6 p6; refine (cloneI_any p6 b2 _ (H6.out.keep hL5)).mono ?_; rintro e w7 ⟨q6, rfl, hq6, hl6⟩; have hL6 : Later w w7 := hL5.trans hl6) | (go_at_call_of 7 c7; refine (cloneF_any (some ⟨c7, o7, none⟩) (some x7) _ (H7.out.keep hL6)).mono ?_; rintro e w8 ⟨q7, rfl, hq7, hl7⟩; have hL7 : Later w w8 := hL6.trans hl7))
  clear H0 H1 H2 H3 H4 H5 H6 H7
  have G0 : Hid (PtI w8 q0 a0) := hq0.keep ((((((hl1.trans hl2).trans hl3).trans hl4).trans hl5).trans hl6).trans hl7)
  have G1 : Hid (PtI w8 q1 a1) := hq1.keep (((((hl2.trans hl3).trans hl4).trans hl5).trans hl6).trans hl7)
  have G2 : Hid (PtI w8 q2 a2) := hq2.keep ((((hl3.trans hl4).trans hl5).trans hl6).trans hl7)
  have G3 : Hid (PtF w8 q3 (some x3)) := hq3.keep (((hl4.trans hl5).trans hl6).trans hl7)
  have G4 : Hid (PtI w8 q4 b0) := hq4.keep ((hl5.trans hl6).trans hl7)
  have G5 : Hid (PtI w8 q5 b1) := hq5.keep (hl6.trans hl7)
  have G6 : Hid (PtI w8 q6 b2) := hq6.keep hl7
  have G7 : Hid (PtF w8 q7 (some x7)) := hq7
  clear hq0 hl0 hq1 hl1 hq2 hl2 hq3 hl3 hq4 hl4 hq5 hl5 hq6 hl6 hq7 hl7 hL0 hL1 hL2 hL3 hL4 hL5 hL6
  have hA : Later w8 (((w8.alloc (.cells #[.pointer q0, .pointer q1, .pointer q2, .pointer q3] 29)).alloc (.cells #[.pointer q4, .pointer q5, .pointer q6, .pointer q7] 29)).alloc (.cells #[.pointer none, .pointer none, .pointer none, .pointer none] 29)) := (((Later.refl w8).alloc _).alloc _).alloc _
  have FU : Hid (Four (((w8.alloc (.cells #[.pointer q0, .pointer q1, .pointer q2, .pointer q3] 29)).alloc (.cells #[.pointer q4, .pointer q5, .pointer q6, .pointer q7] 29)).alloc (.cells #[.pointer none, .pointer none, .pointer none, .pointer none] 29)) w8.heap.size q0 q1 q2 q3) := by refine ⟨?_, ?_, ?_, ?_⟩ <;> simp [go_sem]
  have FV : Hid (Four (((w8.alloc (.cells #[.pointer q0, .pointer q1, .pointer q2, .pointer q3] 29)).alloc (.cells #[.pointer q4, .pointer q5, .pointer q6, .pointer q7] 29)).alloc (.cells #[.pointer none, .pointer none, .pointer none, .pointer none] 29)) (w8.heap.size + 1) q4 q5 q6 q7) := by refine ⟨?_, ?_, ?_, ?_⟩ <;> simp [go_sem]
  have FE : Hid (Four (((w8.alloc (.cells #[.pointer q0, .pointer q1, .pointer q2, .pointer q3] 29)).alloc (.cells #[.pointer q4, .pointer q5, .pointer q6, .pointer q7] 29)).alloc (.cells #[.pointer none, .pointer none, .pointer none, .pointer none] 29)) (w8.heap.size + 1 + 1) none none none none) := by refine ⟨?_, ?_, ?_, ?_⟩ <;> simp [go_sem]
  have K0 := G0.out.keep hA
  have K1 := G1.out.keep hA
  have K2 := G2.out.keep hA
  have K3 := G3.out.keep hA
  have K4 := G4.out.keep hA
  have K5 := G5.out.keep hA
  have K6 := G6.out.keep hA
  have K7 := G7.out.keep hA
  clear G0 G1 G2 G3 G4 G5 G6 G7
  -- the sum number 1
  refine (plus_any q0 q1 q2 q3 q4 q5 q6 q7 a0 a1 a2 b0 b1 b2 (some x3) (some x7) _ K0 K1 K2 K3 K4 K5 K6 K7 HI.out).mono ?_
  rintro e xw1 ⟨r10, r11, r12, r13, z1, rfl, m10, m11, m12, m13, hz1, hl⟩
  have hY : Later xw1 (xw1.alloc (.cells #[.pointer r10, .pointer r11, .pointer r12, .pointer r13] 29)) := (Later.refl _).alloc _
  have hX := hl.trans hY
  replace K0 := K0.keep hX
  replace K1 := K1.keep hX
  replace K2 := K2.keep hX
  replace K3 := K3.keep hX
  replace K4 := K4.keep hX
  replace K5 := K5.keep hX
  replace K6 := K6.keep hX
  replace K7 := K7.keep hX
  replace m10 := m10.keep hY
  replace m11 := m11.keep hY
  replace m12 := m12.keep hY
  replace m13 := m13.keep hY
  replace hA := hA.trans hX
  obtain ⟨cFU0, cFU1, cFU2, cFU3⟩ := FU.out.keep hl
  obtain ⟨cFV0, cFV1, cFV2, cFV3⟩ := FV.out.keep hl
  obtain ⟨cFE0, cFE1, cFE2, cFE3⟩ := FE.out.keep hl
  replace FU : Hid (Four _ w8.heap.size q0 q1 q2 q3) := FU.out.keep hX
  replace FV : Hid (Four _ (w8.heap.size + 1) q4 q5 q6 q7) := FV.out.keep hX
  replace FE : Hid (Four _ (w8.heap.size + 1 + 1) none none none none) := FE.out.keep hX
  have hsa1 : w8.heap.size < xw1.heap.size := lt_of_four cFU0
  have hsb1 : w8.heap.size + 1 < xw1.heap.size := lt_of_four cFV0
  have hsc1 : w8.heap.size + 1 + 1 < xw1.heap.size := lt_of_four cFE0
  have R1 : Hid (Four (xw1.alloc (.cells #[.pointer r10, .pointer r11, .pointer r12, .pointer r13] 29)) xw1.heap.size r10 r11 r12 r13) := by refine ⟨?_, ?_, ?_, ?_⟩ <;> simp [go_sem]
  clear hl hX hY
  go_wp2_with fail
  -- the sum number 2
  refine (plus_any q4 q5 q6 q7 q0 q1 q2 q3 b0 b1 b2 a0 a1 a2 (some x7) (some x3) _ K4 K5 K6 K7 K0 K1 K2 K3 HI.out.swap).mono ?_
  rintro e xw2 ⟨r20, r21, r22, r23, z2, rfl, m20, m21, m22, m23, hz2, hl⟩
  have hY : Later xw2 (xw2.alloc (.cells #[.pointer r20, .pointer r21, .pointer r22, .pointer r23] 29)) := (Later.refl _).alloc _
  have hX := hl.trans hY
  replace K0 := K0.keep hX
  replace K1 := K1.keep hX
  replace K2 := K2.keep hX
  replace K3 := K3.keep hX
  replace K4 := K4.keep hX
  replace K5 := K5.keep hX
  replace K6 := K6.keep hX
  replace K7 := K7.keep hX
  replace m10 := m10.keep hX
  replace m11 := m11.keep hX
  replace m12 := m12.keep hX
  replace m13 := m13.keep hX
  replace m20 := m20.keep hY
  replace m21 := m21.keep hY
  replace m22 := m22.keep hY
  replace m23 := m23.keep hY
  replace hA := hA.trans hX
  clear cFU0 cFU1 cFU2 cFU3 cFV0 cFV1 cFV2 cFV3 cFE0 cFE1 cFE2 cFE3
  obtain ⟨cFU0, cFU1, cFU2, cFU3⟩ := FU.out.keep hl
  obtain ⟨cFV0, cFV1, cFV2, cFV3⟩ := FV.out.keep hl
  obtain ⟨cFE0, cFE1, cFE2, cFE3⟩ := FE.out.keep hl
  obtain ⟨cR10, cR11, cR12, cR13⟩ := R1.out.keep hl
  replace FU : Hid (Four _ w8.heap.size q0 q1 q2 q3) := FU.out.keep hX
  replace FV : Hid (Four _ (w8.heap.size + 1) q4 q5 q6 q7) := FV.out.keep hX
  replace FE : Hid (Four _ (w8.heap.size + 1 + 1) none none none none) := FE.out.keep hX
  replace R1 : Hid (Four _ xw1.heap.size r10 r11 r12 r13) := R1.out.keep hX
  have hsa2 : w8.heap.size < xw2.heap.size := lt_of_four cFU0
  have hsb2 : w8.heap.size + 1 < xw2.heap.size := lt_of_four cFV0
  have hsc2 : w8.heap.size + 1 + 1 < xw2.heap.size := lt_of_four cFE0
  have hs21 : xw1.heap.size < xw2.heap.size := lt_of_four cR10
  have R2 : Hid (Four (xw2.alloc (.cells #[.pointer r20, .pointer r21, .pointer r22, .pointer r23] 29)) xw2.heap.size r20 r21 r22 r23) := by refine ⟨?_, ?_, ?_, ?_⟩ <;> simp [go_sem]
  clear hl hX hY
  go_wp2_with fail
  -- the sum number 3
  refine (plus_any q0 q1 q2 q3 none none none none a0 a1 a2 none none none (some x3) none _ K0 K1 K2 K3 (.inl ⟨rfl, rfl⟩) (.inl ⟨rfl, rfl⟩) (.inl ⟨rfl, rfl⟩) (.inl ⟨rfl, rfl⟩) (NoInf.right _)).mono ?_
  rintro e xw3 ⟨r30, r31, r32, r33, z3, rfl, m30, m31, m32, m33, hz3, hl⟩
  have hY : Later xw3 (xw3.alloc (.cells #[.pointer r30, .pointer r31, .pointer r32, .pointer r33] 29)) := (Later.refl _).alloc _
  have hX := hl.trans hY
  replace K0 := K0.keep hX
  replace K1 := K1.keep hX
  replace K2 := K2.keep hX
  replace K3 := K3.keep hX
  replace K4 := K4.keep hX
  replace K5 := K5.keep hX
  replace K6 := K6.keep hX
  replace K7 := K7.keep hX
  replace m10 := m10.keep hX
  replace m11 := m11.keep hX
  replace m12 := m12.keep hX
  replace m13 := m13.keep hX
  replace m20 := m20.keep hX
  replace m21 := m21.keep hX
  replace m22 := m22.keep hX
  replace m23 := m23.keep hX
  replace m30 := m30.keep hY
  replace m31 := m31.keep hY
  replace m32 := m32.keep hY
  replace m33 := m33.keep hY
  replace hA := hA.trans hX
  clear cFU0 cFU1 cFU2 cFU3 cFV0 cFV1 cFV2 cFV3 cFE0 cFE1 cFE2 cFE3 cR10 cR11 cR12 cR13
  obtain ⟨cFU0, cFU1, cFU2, cFU3⟩ := FU.out.keep hl
  obtain ⟨cFV0, cFV1, cFV2, cFV3⟩ := FV.out.keep hl
  obtain ⟨cFE0, cFE1, cFE2, cFE3⟩ := FE.out.keep hl
  obtain ⟨cR10, cR11, cR12, cR13⟩ := R1.out.keep hl
  obtain ⟨cR20, cR21, cR22, cR23⟩ := R2.out.keep hl
  replace FU : Hid (Four _ w8.heap.size q0 q1 q2 q3) := FU.out.keep hX
  replace FV : Hid (Four _ (w8.heap.size + 1) q4 q5 q6 q7) := FV.out.keep hX
  replace FE : Hid (Four _ (w8.heap.size + 1 + 1) none none none none) := FE.out.keep hX
  replace R1 : Hid (Four _ xw1.heap.size r10 r11 r12 r13) := R1.out.keep hX
  replace R2 : Hid (Four _ xw2.heap.size r20 r21 r22 r23) := R2.out.keep hX
  have hsa3 : w8.heap.size < xw3.heap.size := lt_of_four cFU0
  have hsb3 : w8.heap.size + 1 < xw3.heap.size := lt_of_four cFV0
  have hsc3 : w8.heap.size + 1 + 1 < xw3.heap.size := lt_of_four cFE0
  have hs31 : xw1.heap.size < xw3.heap.size := lt_of_four cR10
  have hs32 : xw2.heap.size < xw3.heap.size := lt_of_four cR20
  have R3 : Hid (Four (xw3.alloc (.cells #[.pointer r30, .pointer r31, .pointer r32, .pointer r33] 29)) xw3.heap.size r30 r31 r32 r33) := by refine ⟨?_, ?_, ?_, ?_⟩ <;> simp [go_sem]
  clear hl hX hY
  go_wp2_with fail
  -- the sum number 4
  refine (plus_any none none none none q0 q1 q2 q3 none none none a0 a1 a2 none (some x3) _ (.inl ⟨rfl, rfl⟩) (.inl ⟨rfl, rfl⟩) (.inl ⟨rfl, rfl⟩) (.inl ⟨rfl, rfl⟩) K0 K1 K2 K3 (NoInf.left _)).mono ?_
  rintro e xw4 ⟨r40, r41, r42, r43, z4, rfl, m40, m41, m42, m43, hz4, hl⟩
  have hY : Later xw4 (xw4.alloc (.cells #[.pointer r40, .pointer r41, .pointer r42, .pointer r43] 29)) := (Later.refl _).alloc _
  have hX := hl.trans hY
  replace K0 := K0.keep hX
  replace K1 := K1.keep hX
  replace K2 := K2.keep hX
  replace K3 := K3.keep hX
  replace K4 := K4.keep hX
  replace K5 := K5.keep hX
  replace K6 := K6.keep hX
  replace K7 := K7.keep hX
  replace m10 := m10.keep hX
  replace m11 := m11.keep hX
  replace m12 := m12.keep hX
  replace m13 := m13.keep hX
  replace m20 := m20.keep hX
  replace m21 := m21.keep hX
  replace m22 := m22.keep hX
  replace m23 := m23.keep hX
  replace m30 := m30.keep hX
  replace m31 := m31.keep hX
  replace m32 := m32.keep hX
  replace m33 := m33.keep hX
  replace m40 := m40.keep hY
  replace m41 := m41.keep hY
  replace m42 := m42.keep hY
  replace m43 := m43.keep hY
  replace hA := hA.trans hX
  clear cFU0 cFU1 cFU2 cFU3 cFV0 cFV1 cFV2 cFV3 cFE0 cFE1 cFE2 cFE3 cR10 cR11 cR12 cR13 cR20 cR21 cR22 cR23
  obtain ⟨cFU0, cFU1, cFU2, cFU3⟩ := FU.out.keep hl
  obtain ⟨cFV0, cFV1, cFV2, cFV3⟩ := FV.out.keep hl
  obtain ⟨cFE0, cFE1, cFE2, cFE3⟩ := FE.out.keep hl
  obtain ⟨cR10, cR11, cR12, cR13⟩ := R1.out.keep hl
  obtain ⟨cR20, cR21, cR22, cR23⟩ := R2.out.keep hl
  obtain ⟨cR30, cR31, cR32, cR33⟩ := R3.out.keep hl
  replace FU : Hid (Four _ w8.heap.size q0 q1 q2 q3) := FU.out.keep hX
  replace FV : Hid (Four _ (w8.heap.size + 1) q4 q5 q6 q7) := FV.out.keep hX
  replace FE : Hid (Four _ (w8.heap.size + 1 + 1) none none none none) := FE.out.keep hX
  replace R1 : Hid (Four _ xw1.heap.size r10 r11 r12 r13) := R1.out.keep hX
  replace R2 : Hid (Four _ xw2.heap.size r20 r21 r22 r23) := R2.out.keep hX
  replace R3 : Hid (Four _ xw3.heap.size r30 r31 r32 r33) := R3.out.keep hX
  have hsa4 : w8.heap.size < xw4.heap.size := lt_of_four cFU0
  have hsb4 : w8.heap.size + 1 < xw4.heap.size := lt_of_four cFV0
  have hsc4 : w8.heap.size + 1 + 1 < xw4.heap.size := lt_of_four cFE0
  have hs41 : xw1.heap.size < xw4.heap.size := lt_of_four cR10
  have hs42 : xw2.heap.size < xw4.heap.size := lt_of_four cR20
  have hs43 : xw3.heap.size < xw4.heap.size := lt_of_four cR30
  have R4 : Hid (Four (xw4.alloc (.cells #[.pointer r40, .pointer r41, .pointer r42, .pointer r43] 29)) xw4.heap.size r40 r41 r42 r43) := by refine ⟨?_, ?_, ?_, ?_⟩ <;> simp [go_sem]
  clear hl hX hY
  go_wp2_with fail
  have hE : Hid (Later w _) := hL7.trans hA
  rw [addI_comm b0 a0] at m20
  rw [addI_comm b1 a1] at m21
  rw [addI_comm b2 a2] at m22
  rw [addI_none a0] at m30
  rw [addI_none a1] at m31
  rw [addI_none a2] at m32
  refine (sameUsage_any r10 r11 r12 r13 r20 r21 r22 r23 _ _ _ z1 z2 _ m10 m11 m12 m13 m20 m21 m22 m23 (rel_same hz1 hz2 HI.out)).mono ?_
  rintro e y5 ⟨rfl, hl5⟩
  obtain ⟨g0, g1, g2, g3⟩ := R3.out.keep hl5
  obtain ⟨u0, u1, u2, u3⟩ := FU.out.keep hl5
  go_wp2_with fail
  refine (sameUsage_any r30 r31 r32 r33 q0 q1 q2 q3 _ _ _ z3 (some x3) _ (m30.keep hl5) (m31.keep hl5) (m32.keep hl5) (m33.keep hl5) (K0.keep hl5) (K1.keep hl5) (K2.keep hl5) (K3.keep hl5) (rel_right hz3)).mono ?_
  rintro e y6 ⟨rfl, hl6⟩
  have h56 := hl5.trans hl6
  obtain ⟨f0, f1, f2, f3⟩ := R4.out.keep h56
  obtain ⟨t0, t1, t2, t3⟩ := FU.out.keep h56
  go_wp2_with fail
  refine (sameUsage_any r40 r41 r42 r43 q0 q1 q2 q3 _ _ _ z4 (some x3) _ (m40.keep h56) (m41.keep h56) (m42.keep h56) (m43.keep h56) (K0.keep h56) (K1.keep h56) (K2.keep h56) (K3.keep h56) (rel_left hz4)).mono ?_
  rintro e y7 ⟨rfl, hl7'⟩
  go_wp2_with fail
  go_ret
  exact ⟨rfl, hE.out.trans (h56.trans hl7')⟩

set_option maxHeartbeats 1000000 in
theorem lawF_inf1 (p0 p1 p2 p4 p5 p6 : Option Addr) (c3 o3 x3 c7 o7 x7 : Nat) (w : World) (hx : w.cell? ⟨c3, o3, none⟩ = some (.float .f64 x3)) (hy : w.cell? ⟨c7, o7, none⟩ = some (.float .f64 x7)) (ix : infB x3 = true) :
    Calls Try.prog 4 #[.pointer p0, .pointer p1, .pointer p2, .pointer (some ⟨c3, o3, none⟩), .pointer p4, .pointer p5, .pointer p6, .pointer (some ⟨c7, o7, none⟩)] w fun e w' => e = .returned (.bool true) ∧ Later w w' := by
  have HIX : Hid (infB x3 = true) := ix
  clear ix
  go_enter Try.func4, Try.ntmps4
  go_wp2_with (go_at_call_of 5 x3; refine (isInf5_is x3 true HIX.out _).mono ?_; rintro e w' ⟨rfl, rfl⟩)
  go_ret
  exact ⟨rfl, Later.refl _⟩

set_option maxHeartbeats 1000000 in
theorem lawF_inf2 (p0 p1 p2 p4 p5 p6 : Option Addr) (c3 o3 x3 c7 o7 x7 : Nat) (w : World) (hx : w.cell? ⟨c3, o3, none⟩ = some (.float .f64 x3)) (hy : w.cell? ⟨c7, o7, none⟩ = some (.float .f64 x7)) (ix : infB x3 = false) (iy : infB x7 = true) :
    Calls Try.prog 4 #[.pointer p0, .pointer p1, .pointer p2, .pointer (some ⟨c3, o3, none⟩), .pointer p4, .pointer p5, .pointer p6, .pointer (some ⟨c7, o7, none⟩)] w fun e w' => e = .returned (.bool true) ∧ Later w w' := by
  have HIX : Hid (infB x3 = false) := ix
  have HIY : Hid (infB x7 = true) := iy
  clear ix iy
  go_enter Try.func4, Try.ntmps4
  go_wp2_with (first | (go_at_call_of 5 x3; refine (isInf5_is x3 false HIX.out _).mono ?_; rintro e w' ⟨rfl, rfl⟩) | (go_at_call_of 5 x7; refine (isInf5_is x7 true HIY.out _).mono ?_; rintro e w' ⟨rfl, rfl⟩))
  go_ret
  exact ⟨rfl, Later.refl _⟩

theorem lawF_any (p0 p1 p2 p3 p4 p5 p6 p7 : Option Addr) (a0 a1 a2 b0 b1 b2 : Option Int) (a3 b3 : Option Nat) (w : World)
    (h0 : PtI w p0 a0) (h1 : PtI w p1 a1) (h2 : PtI w p2 a2) (h3 : PtF w p3 a3) (h4 : PtI w p4 b0) (h5 : PtI w p5 b1) (h6 : PtI w p6 b2) (h7 : PtF w p7 b3)  :
    Calls Try.prog 4 #[.pointer p0, .pointer p1, .pointer p2, .pointer p3, .pointer p4, .pointer p5, .pointer p6, .pointer p7] w fun e w' => e = .returned (.bool true) ∧ Later w w' := by
  have k3 := h3
  have k7 := h7
  rcases h3 with ⟨rfl, rfl⟩ | ⟨c3, o3, x3, rfl, rfl, _, hx⟩
  · exact lawF_nil p0 p1 p2 p4 p5 p6 p7 a0 a1 a2 b0 b1 b2 b3 w h0 h1 h2 k3 h4 h5 h6 k7 
  · rcases h7 with ⟨rfl, rfl⟩ | ⟨c7, o7, x7, rfl, rfl, _, hy⟩
    · exact lawF_right p0 p1 p2 p4 p5 p6 a0 a1 a2 b0 b1 b2 c3 o3 x3 w h0 h1 h2 k3 h4 h5 h6 k7 
    · cases ix : infB x3
      · cases iy : infB x7
        · exact lawF_both p0 p1 p2 p4 p5 p6 a0 a1 a2 b0 b1 b2 c3 o3 x3 c7 o7 x7 w h0 h1 h2 k3 h4 h5 h6 k7  hx hy ix iy
        · exact lawF_inf2 p0 p1 p2 p4 p5 p6 c3 o3 x3 c7 o7 x7 w hx hy ix iy
      · exact lawF_inf1 p0 p1 p2 p4 p5 p6 c3 o3 x3 c7 o7 x7 w hx hy ix
end Go.Proofs.Qxb6612270a
