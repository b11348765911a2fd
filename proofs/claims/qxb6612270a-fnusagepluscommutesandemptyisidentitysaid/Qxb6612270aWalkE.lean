/-
  THE WALK OF 'FnUsagePlusExactSaturatingSum'.
-/
import Derived.Test.Qxb6612270aPlus
namespace Go.Proofs.Qxb6612270a
open Go.RowKit Fl
set_option linter.unusedVariables false

theorem isInf5_is (x : Nat) (b : Bool) (h : infB x = b) (w : World) : Calls Try.prog 5 #[.float .f64 x] w fun e w' => e = .returned (.bool b) ∧ w = w' := by
  rw [← h]; exact (isInf5 x w).mono fun e w' hh => ⟨hh.1, hh.2.symm⟩

theorem Later.alloc {a w : World} (h : Later a w) (o : Obj) : Later a (w.alloc o) := Below.alloc h h.size o

set_option maxHeartbeats 4000000 in
theorem lawE_nil (p0 p1 p2 p4 p5 p6 p7 : Option Addr) (a0 a1 a2 b0 b1 b2 : Option Int) (b3 : Option Nat) (w : World)
    (h0 : PtI w p0 a0) (h1 : PtI w p1 a1) (h2 : PtI w p2 a2) (h3 : PtF w none none) (h4 : PtI w p4 b0) (h5 : PtI w p5 b1) (h6 : PtI w p6 b2) (h7 : PtF w p7 b3) (ra0 : InR a0) (ra1 : InR a1) (ra2 : InR a2) (rb0 : InR b0) (rb1 : InR b1) (rb2 : InR b2) :
    Calls Try.prog 3 #[.pointer p0, .pointer p1, .pointer p2, .pointer none, .pointer p4, .pointer p5, .pointer p6, .pointer p7] w fun e w' => e = .returned (.bool true) ∧ Later w w' := by
  have H0 : Hid (PtI w p0 a0) := h0
  have H1 : Hid (PtI w p1 a1) := h1
  have H2 : Hid (PtI w p2 a2) := h2
  have H3 : Hid (PtF w none none) := h3
  have H4 : Hid (PtI w p4 b0) := h4
  have H5 : Hid (PtI w p5 b1) := h5
  have H6 : Hid (PtI w p6 b2) := h6
  have H7 : Hid (PtF w p7 b3) := h7
  have HI : Hid (NoInf none b3) := fun x y h => by cases h
  have Ra0 : Hid (InR a0) := ra0
  have Ra1 : Hid (InR a1) := ra1
  have Ra2 : Hid (InR a2) := ra2
  have Rb0 : Hid (InR b0) := rb0
  have Rb1 : Hid (InR b1) := rb1
  have Rb2 : Hid (InR b2) := rb2
  clear h0 h1 h2 h3 h4 h5 h6 h7 ra0 ra1 ra2 rb0 rb1 rb2
  go_enter Try.func3, Try.ntmps3
  go_wp2_with (first | (go_at_call_of 6 p0; refine (cloneI_any p0 a0 _ (H0.out)).mono ?_; rintro e w1 ⟨q0, rfl, hq0, hl0⟩; have hL0 : Later w w1 := hl0) | (go_at_call_of 6 p1; refine (cloneI_any p1 a1 _ (H1.out.keep hL0)).mono ?_; rintro e w2 ⟨q1, rfl, hq1, hl1⟩; have hL1 : Later w w2 := hL0.trans hl1) | (go_at_call_of 6 p2; refine (cloneI_any p2 a2 _ (H2.out.keep hL1)).mono ?_; rintro e w3 ⟨q2, rfl, hq2, hl2⟩; have hL2 : Later w w3 := hL1.trans hl2) | (go_at_call_of 7 (none : Option Addr); refine (cloneF_any none none _ (H3.out.keep hL2)).mono ?_; rintro e w4 ⟨q3, rfl, hq3, hl3⟩; have hL3 : Later w w4 := hL2.trans hl3) | (go_at_call_of 6 p4; refine (cloneI_any p4 b0 _ (H4.out.keep hL3)).mono ?_; rintro e w5 ⟨q4, rfl, hq4, hl4⟩; have hL4 : Later w w5 := hL3.trans hl4) | (go_at_call_of 6 p5; refine (cloneI_any p5 b1 _ (H5.out.keep hL4)).mono ?_; rintro e w6 ⟨q5, rfl, hq5, hl5⟩; have hL5 : Later w w6 := hL4.trans hl5) | (go_at_call_of 6 p6; refine (cloneI_any p6 b2 _ (H6.out.keep hL5)).mono ?_; rintro e w7 ⟨q6, rfl, hq6, hl6⟩; have hL6 : Later w w7 := hL5.trans hl6) | (go_at_call_of 7 p7; refine (cloneF_any p7 b3 _ (H7.out.keep hL6)).mono ?_; rintro e w8 ⟨q7, rfl, hq7, hl7⟩; have hL7 : Later w w8 := hL6.trans hl7))
  clear H0 H1 H2 H3 H4 H5 H6 H7
  have G0 : Hid (PtI w8 q0 a0) := hq0.keep ((((((hl1.trans hl2).trans hl3).trans hl4).trans hl5).trans hl6).trans hl7)
  have G1 : Hid (PtI w8 q1 a1) := hq1.keep (((((hl2.trans hl3).trans hl4).trans hl5).trans hl6).trans hl7)
  have G2 : Hid (PtI w8 q2 a2) := hq2.keep ((((hl3.trans hl4).trans hl5).trans hl6).trans hl7)
  have G3 : Hid (PtF w8 q3 none) := hq3.keep (((hl4.trans hl5).trans hl6).trans hl7)
  have G4 : Hid (PtI w8 q4 b0) := hq4.keep ((hl5.trans hl6).trans hl7)
  have G5 : Hid (PtI w8 q5 b1) := hq5.keep (hl6.trans hl7)
  have G6 : Hid (PtI w8 q6 b2) := hq6.keep hl7
  have G7 : Hid (PtF w8 q7 b3) := hq7
  clear hq0 hl0 hq1 hl1 hq2 hl2 hq3 hl3 hq4 hl4 hq5 hl5 hq6 hl6 hq7 hl7 hL0 hL1 hL2 hL3 hL4 hL5 hL6
  have hA : Later w8 ((w8.alloc (.cells #[.pointer q0, .pointer q1, .pointer q2, .pointer q3] 29)).alloc (.cells #[.pointer q4, .pointer q5, .pointer q6, .pointer q7] 29)) := ((Later.refl w8).alloc _).alloc _
  refine (plus_any q0 q1 q2 q3 q4 q5 q6 q7 a0 a1 a2 b0 b1 b2 none b3 _ (G0.out.keep hA) (G1.out.keep hA) (G2.out.keep hA) (G3.out.keep hA) (G4.out.keep hA) (G5.out.keep hA) (G6.out.keep hA) (G7.out.keep hA) HI.out).mono ?_
  rintro e w9 ⟨r0, r1, r2, r3, z, rfl, hr0, hr1, hr2, hr3, hz, hl9⟩
  have hB : Later w9 (w9.alloc (.cells #[.pointer r0, .pointer r1, .pointer r2, .pointer r3] 29)) := (Later.refl w9).alloc _
  have hC := hA.trans (hl9.trans hB)
  have K0 : Hid (PtI _ q0 a0) := G0.out.keep hC
  have K1 : Hid (PtI _ q1 a1) := G1.out.keep hC
  have K2 : Hid (PtI _ q2 a2) := G2.out.keep hC
  have K3 : Hid (PtF _ q3 none) := G3.out.keep hC
  have K4 : Hid (PtI _ q4 b0) := G4.out.keep hC
  have K5 : Hid (PtI _ q5 b1) := G5.out.keep hC
  have K6 : Hid (PtI _ q6 b2) := G6.out.keep hC
  have K7 : Hid (PtF _ q7 b3) := G7.out.keep hC
  have T0 : Hid (PtI _ r0 (addI a0 b0)) := hr0.keep hB
  have T1 : Hid (PtI _ r1 (addI a1 b1)) := hr1.keep hB
  have T2 : Hid (PtI _ r2 (addI a2 b2)) := hr2.keep hB
  have T3 : Hid (PtF _ r3 z) := hr3.keep hB
  have HZ : Hid (RelF none b3 z) := hz
  have HL : Hid (Later w _) := hL7.trans hC
  clear hA hB hC hr0 hr1 hr2 hr3 hz hl9 hL7 G0 G1 G2 G3 G4 G5 G6 G7
  go_wp2_with (first | (go_at_call_of 9 r0; refine (tokensAre_any r0 q0 q4 a0 b0 _ T0.out K0.out K4.out Ra0.out Rb0.out).mono ?_; rintro e w' ⟨rfl, rfl⟩) | (go_at_call_of 9 r1; refine (tokensAre_any r1 q1 q5 a1 b1 _ T1.out K1.out K5.out Ra1.out Rb1.out).mono ?_; rintro e w' ⟨rfl, rfl⟩) | (go_at_call_of 9 r2; refine (tokensAre_any r2 q2 q6 a2 b2 _ T2.out K2.out K6.out Ra2.out Rb2.out).mono ?_; rintro e w' ⟨rfl, rfl⟩) | (go_at_call 10; refine (costIs_any r3 q3 q7 none b3 z _ T3.out K3.out K7.out HZ.out HI.out).mono ?_; rintro e w' ⟨rfl, nn, rfl⟩))
  go_ret
  exact ⟨rfl, HL.out.drewN _⟩

set_option maxHeartbeats 4000000 in
theorem lawE_right (p0 p1 p2 p4 p5 p6 : Option Addr) (a0 a1 a2 b0 b1 b2 : Option Int) (c3 o3 x3 : Nat) (w : World)
    (h0 : PtI w p0 a0) (h1 : PtI w p1 a1) (h2 : PtI w p2 a2) (h3 : PtF w (some ⟨c3, o3, none⟩) (some x3)) (h4 : PtI w p4 b0) (h5 : PtI w p5 b1) (h6 : PtI w p6 b2) (h7 : PtF w none none) (ra0 : InR a0) (ra1 : InR a1) (ra2 : InR a2) (rb0 : InR b0) (rb1 : InR b1) (rb2 : InR b2) :
    Calls Try.prog 3 #[.pointer p0, .pointer p1, .pointer p2, .pointer (some ⟨c3, o3, none⟩), .pointer p4, .pointer p5, .pointer p6, .pointer none] w fun e w' => e = .returned (.bool true) ∧ Later w w' := by
  have H0 : Hid (PtI w p0 a0) := h0
  have H1 : Hid (PtI w p1 a1) := h1
  have H2 : Hid (PtI w p2 a2) := h2
  have H3 : Hid (PtF w (some ⟨c3, o3, none⟩) (some x3)) := h3
  have H4 : Hid (PtI w p4 b0) := h4
  have H5 : Hid (PtI w p5 b1) := h5
  have H6 : Hid (PtI w p6 b2) := h6
  have H7 : Hid (PtF w none none) := h7
  have HI : Hid (NoInf (some x3) none) := fun x y _ h => by cases h
  have Ra0 : Hid (InR a0) := ra0
  have Ra1 : Hid (InR a1) := ra1
  have Ra2 : Hid (InR a2) := ra2
  have Rb0 : Hid (InR b0) := rb0
  have Rb1 : Hid (InR b1) := rb1
  have Rb2 : Hid (InR b2) := rb2
  clear h0 h1 h2 h3 h4 h5 h6 h7 ra0 ra1 ra2 rb0 rb1 rb2
  go_enter Try.func3, Try.ntmps3
  go_wp2_with (first | (go_at_call_of 6 p0; refine (cloneI_any p0 a0 _ (H0.out)).mono ?_; rintro e w1 ⟨q0, rfl, hq0, hl0⟩; have hL0 : Later w w1 := hl0) | (go_at_call_of 6 p1; refine (cloneI_any p1 a1 _ (H1.out.keep hL0)).mono ?_; rintro e w2 ⟨q1, rfl, hq1, hl1⟩; have hL1 : Later w w2 := hL0.trans hl1) | (go_at_call_of 6 p2; refine (cloneI_any p2 a2 _ (H2.out.keep hL1)).mono ?_; rintro e w3 ⟨q2, rfl, hq2, hl2⟩; have hL2 : Later w w3 := hL1.trans hl2) | (go_at_call_of 7 c3; refine (cloneF_any (some ⟨c3, o3, none⟩) (some x3) _ (H3.out.keep hL2)).mono ?_; rintro e w4 ⟨q3, rfl, hq3, hl3⟩; have hL3 : Later w w4 := hL2.trans hl3) | (go_at_call_of 6 p4; refine (cloneI_any p4 b0 _ (H4.out.keep hL3)).mono ?_; rintro e w5 ⟨q4, rfl, hq4, hl4⟩; have hL4 : Later w w5 := hL3.trans hl4) | (go_at_call_of 6 p5; refine (cloneI_any p5 b1 _ (H5.out.keep hL4)).mono ?_; rintro e w6 ⟨q5, rfl, hq5, hl5⟩; have hL5 : Later w w6 := hL4.trans hl5) | (go_at_call_of 6 p6; refine (cloneI_any p6 b2 _ (H6.out.keep hL5)).mono ?_; rintro e w7 ⟨q6, rfl, hq6, hl6⟩; have hL6 : Later w w7 := hL5.trans hl6) | (go_at_call_of 7 (none : Option Addr); refine (cloneF_any none none _ (H7.out.keep hL6)).mono ?_; rintro e w8 ⟨q7, rfl, hq7, hl7⟩; have hL7 : Later w w8 := hL6.trans hl7))
  clear H0 H1 H2 H3 H4 H5 H6 H7
  have G0 : Hid (PtI w8 q0 a0) := hq0.keep ((((((hl1.trans hl2).trans hl3).trans hl4).trans hl5).trans hl6).trans hl7)
  have G1 : Hid (PtI w8 q1 a1) := hq1.keep (((((hl2.trans hl3).trans hl4).trans hl5).trans hl6).trans hl7)
  have G2 : Hid (PtI w8 q2 a2) := hq2.keep ((((hl3.trans hl4).trans hl5).trans hl6).trans hl7)
  have G3 : Hid (PtF w8 q3 (some x3)) := hq3.keep (((hl4.trans hl5).trans hl6).trans hl7)
  have G4 : Hid (PtI w8 q4 b0) := hq4.keep ((hl5.trans hl6).trans hl7)
  have G5 : Hid (PtI w8 q5 b1) := hq5.keep (hl6.trans hl7)
  have G6 : Hid (PtI w8 q6 b2) := hq6.keep hl7
  have G7 : Hid (PtF w8 q7 none) := hq7
  clear hq0 hl0 hq1 hl1 hq2 hl2 hq3 hl3 hq4 hl4 hq5 hl5 hq6 hl6 hq7 hl7 hL0 hL1 hL2 hL3 hL4 hL5 hL6
  have hA : Later w8 ((w8.alloc (.cells #[.pointer q0, .pointer q1, .pointer q2, .pointer q3] 29)).alloc (.cells #[.pointer q4, .pointer q5, .pointer q6, .pointer q7] 29)) := ((Later.refl w8).alloc _).alloc _
  refine (plus_any q0 q1 q2 q3 q4 q5 q6 q7 a0 a1 a2 b0 b1 b2 (some x3) none _ (G0.out.keep hA) (G1.out.keep hA) (G2.out.keep hA) (G3.out.keep hA) (G4.out.keep hA) (G5.out.keep hA) (G6.out.keep hA) (G7.out.keep hA) HI.out).mono ?_
  rintro e w9 ⟨r0, r1, r2, r3, z, rfl, hr0, hr1, hr2, hr3, hz, hl9⟩
  have hB : Later w9 (w9.alloc (.cells #[.pointer r0, .pointer r1, .pointer r2, .pointer r3] 29)) := (Later.refl w9).alloc _
  have hC := hA.trans (hl9.trans hB)
  have K0 : Hid (PtI _ q0 a0) := G0.out.keep hC
  have K1 : Hid (PtI _ q1 a1) := G1.out.keep hC
  have K2 : Hid (PtI _ q2 a2) := G2.out.keep hC
  have K3 : Hid (PtF _ q3 (some x3)) := G3.out.keep hC
  have K4 : Hid (PtI _ q4 b0) := G4.out.keep hC
  have K5 : Hid (PtI _ q5 b1) := G5.out.keep hC
  have K6 : Hid (PtI _ q6 b2) := G6.out.keep hC
  have K7 : Hid (PtF _ q7 none) := G7.out.keep hC
  have T0 : Hid (PtI _ r0 (addI a0 b0)) := hr0.keep hB
  have T1 : Hid (PtI _ r1 (addI a1 b1)) := hr1.keep hB
  have T2 : Hid (PtI _ r2 (addI a2 b2)) := hr2.keep hB
  have T3 : Hid (PtF _ r3 z) := hr3.keep hB
  have HZ : Hid (RelF (some x3) none z) := hz
  have HL : Hid (Later w _) := hL7.trans hC
  clear hA hB hC hr0 hr1 hr2 hr3 hz hl9 hL7 G0 G1 G2 G3 G4 G5 G6 G7
  go_wp2_with (first | (go_at_call_of 9 r0; refine (tokensAre_any r0 q0 q4 a0 b0 _ T0.out K0.out K4.out Ra0.out Rb0.out).mono ?_; rintro e w' ⟨rfl, rfl⟩) | (go_at_call_of 9 r1; refine (tokensAre_any r1 q1 q5 a1 b1 _ T1.out K1.out K5.out Ra1.out Rb1.out).mono ?_; rintro e w' ⟨rfl, rfl⟩) | (go_at_call_of 9 r2; refine (tokensAre_any r2 q2 q6 a2 b2 _ T2.out K2.out K6.out Ra2.out Rb2.out).mono ?_; rintro e w' ⟨rfl, rfl⟩) | (go_at_call 10; refine (costIs_any r3 q3 q7 (some x3) none z _ T3.out K3.out K7.out HZ.out HI.out).mono ?_; rintro e w' ⟨rfl, nn, rfl⟩))
  go_ret
  exact ⟨rfl, HL.out.drewN _⟩

set_option maxHeartbeats 4000000 in
theorem lawE_both (p0 p1 p2 p4 p5 p6 : Option Addr) (a0 a1 a2 b0 b1 b2 : Option Int) (c3 o3 x3 c7 o7 x7 : Nat) (w : World)
    (h0 : PtI w p0 a0) (h1 : PtI w p1 a1) (h2 : PtI w p2 a2) (h3 : PtF w (some ⟨c3, o3, none⟩) (some x3)) (h4 : PtI w p4 b0) (h5 : PtI w p5 b1) (h6 : PtI w p6 b2) (h7 : PtF w (some ⟨c7, o7, none⟩) (some x7)) (ra0 : InR a0) (ra1 : InR a1) (ra2 : InR a2) (rb0 : InR b0) (rb1 : InR b1) (rb2 : InR b2) (hx : w.cell? ⟨c3, o3, none⟩ = some (.float .f64 x3)) (hy : w.cell? ⟨c7, o7, none⟩ = some (.float .f64 x7)) (ix : infB x3 = false) (iy : infB x7 = false) :
    Calls Try.prog 3 #[.pointer p0, .pointer p1, .pointer p2, .pointer (some ⟨c3, o3, none⟩), .pointer p4, .pointer p5, .pointer p6, .pointer (some ⟨c7, o7, none⟩)] w fun e w' => e = .returned (.bool true) ∧ Later w w' := by
  have H0 : Hid (PtI w p0 a0) := h0
  have H1 : Hid (PtI w p1 a1) := h1
  have H2 : Hid (PtI w p2 a2) := h2
  have H3 : Hid (PtF w (some ⟨c3, o3, none⟩) (some x3)) := h3
  have H4 : Hid (PtI w p4 b0) := h4
  have H5 : Hid (PtI w p5 b1) := h5
  have H6 : Hid (PtI w p6 b2) := h6
  have H7 : Hid (PtF w (some ⟨c7, o7, none⟩) (some x7)) := h7
  have HI : Hid (NoInf (some x3) (some x7)) := fun x y h1 h2 => by cases h1; cases h2; exact ⟨ix, iy⟩
  have HIX : Hid (infB x3 = false) := ix
  have HIY : Hid (infB x7 = false) := iy
  have Ra0 : Hid (InR a0) := ra0
  have Ra1 : Hid (InR a1) := ra1
  have Ra2 : Hid (InR a2) := ra2
  have Rb0 : Hid (InR b0) := rb0
  have Rb1 : Hid (InR b1) := rb1
  have Rb2 : Hid (InR b2) := rb2
  clear h0 h1 h2 h3 h4 h5 h6 h7 ra0 ra1 ra2 rb0 rb1 rb2 ix iy
  go_enter Try.func3, Try.ntmps3
  go_wp2_with (first | (go_at_call_of 5 x3; refine (isInf5_is x3 false HIX.out _).mono ?_; rintro e w' ⟨rfl, rfl⟩) | (go_at_call_of 5 x7; refine (isInf5_is x7 false HIY.out _).mono ?_; rintro e w' ⟨rfl, rfl⟩) | (go_at_call_of 6 p0; refine (cloneI_any p0 a0 _ (H0.out)).mono ?_; rintro e w1 ⟨q0, rfl, hq0, hl0⟩; have hL0 : Later w w1 := hl0) | (go_at_call_of 6 p1; refine (cloneI_any p1 a1 _ (H1.out.keep hL0)).mono ?_; rintro e w2 ⟨q1, rfl, hq1, hl1⟩; have hL1 : Later w w2 := hL0.trans hl1) | (go_at_call_of 6 p2; refine (cloneI_any p2 a2 _ (H2.out.keep hL1)).mono ?_; rintro e w3 ⟨q2, rfl, hq2, hl2⟩; have hL2 : Later w w3 := hL1.trans hl2) | (go_at_call_of 7 c3; refine (cloneF_any (some ⟨c3, o3, none⟩) (some x3) _ (H3.out.keep hL2)).mono ?_; rintro e w4 ⟨q3, rfl, hq3, hl3⟩; have hL3 : Later w w4 := hL2.trans hl3) | (go_at_call_of 6 p4; refine (cloneI_any p4 b0 _ (H4.out.keep hL3)).mono ?_; rintro e w5 ⟨q4, rfl, hq4, hl4⟩; have hL4 : Later w w5 := hL3.trans hl4) | (go_at_call_of 6 p5; refine (cloneI_any p5 b1 _ (H5.out.keep hL4)).mono ?_; rintro e w6 ⟨q5, rfl, hq5, hl5⟩; have hL5 : Later w w6 := hL4.trans hl5) | (go_at_call_of 6 p6; refine (cloneI_any p6 b2 _ (H6.out.keep hL5)).mono ?_; rintro e w7 ⟨q6, rfl, hq6, hl6⟩; have hL6 : Later w w7 := hL5.trans hl6) | (go_at_call_of 7 c7; refine (cloneF_any (some ⟨c7, o7, none⟩) (some x7) _ (H7.out.keep hL6)).mono ?_; rintro e w8 ⟨q7, rfl, hq7, hl7⟩; have hL7 : Later w w8 := hL6.trans hl7))
  clear H0 H1 H2 H3 H4 H5 H6 H7
  have G0 : Hid (PtI w8 q0 a0) := hq0.keep ((((((hl1.trans hl2).trans hl3).trans hl4).trans hl5).trans hl6).trans hl7)
  have G1 : Hid (PtI w8 q1 a1) := hq1.keep (((((hl2.trans hl3).trans hl4).trans hl5).trans hl6).trans hl7)
  have G2 : Hid (PtI w8 q2 a2) := hq2.keep ((((hl3.trans hl4).trans hl5).trans hl6).trans hl7)
  have G3 : Hid (PtF w8 q3 (some x3)) := hq3.keep (((hl4.trans hl5).trans hl6).trans hl7)
  have G4 : Hid (PtI w8 q4 b0) := hq4.keep ((hl5.trans hl6).trans hl7)
  have G5 : Hid (PtI w8 q5 b1) := hq5.keep (hl6.trans hl7)
  have G6 : Hid (PtI w8 q6 b2) := hq6.keep hl7
  have G7 : Hid (PtF w8 q7 (some x7)) := hq7
  clear hq0 hl0 hq1 hl1 hq2 hl2 hq3 hl3 hq4 hl4 hq5 hl5 hq6 hl6 hq7 hl7 hL0 hL1 hL2 hL3 hL4 hL5 hL6
  have hA : Later w8 ((w8.alloc (.cells #[.pointer q0, .pointer q1, .pointer q2, .pointer q3] 29)).alloc (.cells #[.pointer q4, .pointer q5, .pointer q6, .pointer q7] 29)) := ((Later.refl w8).alloc _).alloc _
  refine (plus_any q0 q1 q2 q3 q4 q5 q6 q7 a0 a1 a2 b0 b1 b2 (some x3) (some x7) _ (G0.out.keep hA) (G1.out.keep hA) (G2.out.keep hA) (G3.out.keep hA) (G4.out.keep hA) (G5.out.keep hA) (G6.out.keep hA) (G7.out.keep hA) HI.out).mono ?_
  rintro e w9 ⟨r0, r1, r2, r3, z, rfl, hr0, hr1, hr2, hr3, hz, hl9⟩
  have hB : Later w9 (w9.alloc (.cells #[.pointer r0, .pointer r1, .pointer r2, .pointer r3] 29)) := (Later.refl w9).alloc _
  have hC := hA.trans (hl9.trans hB)
  have K0 : Hid (PtI _ q0 a0) := G0.out.keep hC
  have K1 : Hid (PtI _ q1 a1) := G1.out.keep hC
  have K2 : Hid (PtI _ q2 a2) := G2.out.keep hC
  have K3 : Hid (PtF _ q3 (some x3)) := G3.out.keep hC
  have K4 : Hid (PtI _ q4 b0) := G4.out.keep hC
  have K5 : Hid (PtI _ q5 b1) := G5.out.keep hC
  have K6 : Hid (PtI _ q6 b2) := G6.out.keep hC
  have K7 : Hid (PtF _ q7 (some x7)) := G7.out.keep hC
  have T0 : Hid (PtI _ r0 (addI a0 b0)) := hr0.keep hB
  have T1 : Hid (PtI _ r1 (addI a1 b1)) := hr1.keep hB
  have T2 : Hid (PtI _ r2 (addI a2 b2)) := hr2.keep hB
  have T3 : Hid (PtF _ r3 z) := hr3.keep hB
  have HZ : Hid (RelF (some x3) (some x7) z) := hz
  have HL : Hid (Later w _) := hL7.trans hC
  clear hA hB hC hr0 hr1 hr2 hr3 hz hl9 hL7 G0 G1 G2 G3 G4 G5 G6 G7
  go_wp2_with (first | (go_at_call_of 9 r0; refine (tokensAre_any r0 q0 q4 a0 b0 _ T0.out K0.out K4.out Ra0.out Rb0.out).mono ?_; rintro e w' ⟨rfl, rfl⟩) | (go_at_call_of 9 r1; refine (tokensAre_any r1 q1 q5 a1 b1 _ T1.out K1.out K5.out Ra1.out Rb1.out).mono ?_; rintro e w' ⟨rfl, rfl⟩) | (go_at_call_of 9 r2; refine (tokensAre_any r2 q2 q6 a2 b2 _ T2.out K2.out K6.out Ra2.out Rb2.out).mono ?_; rintro e w' ⟨rfl, rfl⟩) | (go_at_call 10; refine (costIs_any r3 q3 q7 (some x3) (some x7) z _ T3.out K3.out K7.out HZ.out HI.out).mono ?_; rintro e w' ⟨rfl, nn, rfl⟩))
  go_ret
  exact ⟨rfl, HL.out.drewN _⟩

set_option maxHeartbeats 1000000 in
theorem lawE_inf1 (p0 p1 p2 p4 p5 p6 : Option Addr) (c3 o3 x3 c7 o7 x7 : Nat) (w : World) (hx : w.cell? ⟨c3, o3, none⟩ = some (.float .f64 x3)) (hy : w.cell? ⟨c7, o7, none⟩ = some (.float .f64 x7)) (ix : infB x3 = true) :
    Calls Try.prog 3 #[.pointer p0, .pointer p1, .pointer p2, .pointer (some ⟨c3, o3, none⟩), .pointer p4, .pointer p5, .pointer p6, .pointer (some ⟨c7, o7, none⟩)] w fun e w' => e = .returned (.bool true) ∧ Later w w' := by
  have HIX : Hid (infB x3 = true) := ix
  clear ix
  go_enter Try.func3, Try.ntmps3
  go_wp2_with (go_at_call_of 5 x3; refine (isInf5_is x3 true HIX.out _).mono ?_; rintro e w' ⟨rfl, rfl⟩)
  go_ret
  exact ⟨rfl, Later.refl _⟩

set_option maxHeartbeats 1000000 in
theorem lawE_inf2 (p0 p1 p2 p4 p5 p6 : Option Addr) (c3 o3 x3 c7 o7 x7 : Nat) (w : World) (hx : w.cell? ⟨c3, o3, none⟩ = some (.float .f64 x3)) (hy : w.cell? ⟨c7, o7, none⟩ = some (.float .f64 x7)) (ix : infB x3 = false) (iy : infB x7 = true) :
    Calls Try.prog 3 #[.pointer p0, .pointer p1, .pointer p2, .pointer (some ⟨c3, o3, none⟩), .pointer p4, .pointer p5, .pointer p6, .pointer (some ⟨c7, o7, none⟩)] w fun e w' => e = .returned (.bool true) ∧ Later w w' := by
  have HIX : Hid (infB x3 = false) := ix
  have HIY : Hid (infB x7 = true) := iy
  clear ix iy
  go_enter Try.func3, Try.ntmps3
  go_wp2_with (first | (go_at_call_of 5 x3; refine (isInf5_is x3 false HIX.out _).mono ?_; rintro e w' ⟨rfl, rfl⟩) | (go_at_call_of 5 x7; refine (isInf5_is x7 true HIY.out _).mono ?_; rintro e w' ⟨rfl, rfl⟩))
  go_ret
  exact ⟨rfl, Later.refl _⟩

theorem lawE_any (p0 p1 p2 p3 p4 p5 p6 p7 : Option Addr) (a0 a1 a2 b0 b1 b2 : Option Int) (a3 b3 : Option Nat) (w : World)
    (h0 : PtI w p0 a0) (h1 : PtI w p1 a1) (h2 : PtI w p2 a2) (h3 : PtF w p3 a3) (h4 : PtI w p4 b0) (h5 : PtI w p5 b1) (h6 : PtI w p6 b2) (h7 : PtF w p7 b3) (ra0 : InR a0) (ra1 : InR a1) (ra2 : InR a2) (rb0 : InR b0) (rb1 : InR b1) (rb2 : InR b2) :
    Calls Try.prog 3 #[.pointer p0, .pointer p1, .pointer p2, .pointer p3, .pointer p4, .pointer p5, .pointer p6, .pointer p7] w fun e w' => e = .returned (.bool true) ∧ Later w w' := by
  have k3 := h3
  have k7 := h7
  rcases h3 with ⟨rfl, rfl⟩ | ⟨c3, o3, x3, rfl, rfl, _, hx⟩
  · exact lawE_nil p0 p1 p2 p4 p5 p6 p7 a0 a1 a2 b0 b1 b2 b3 w h0 h1 h2 k3 h4 h5 h6 k7 ra0 ra1 ra2 rb0 rb1 rb2
  · rcases h7 with ⟨rfl, rfl⟩ | ⟨c7, o7, x7, rfl, rfl, _, hy⟩
    · exact lawE_right p0 p1 p2 p4 p5 p6 a0 a1 a2 b0 b1 b2 c3 o3 x3 w h0 h1 h2 k3 h4 h5 h6 k7 ra0 ra1 ra2 rb0 rb1 rb2
    · cases ix : infB x3
      · cases iy : infB x7
        · exact lawE_both p0 p1 p2 p4 p5 p6 a0 a1 a2 b0 b1 b2 c3 o3 x3 c7 o7 x7 w h0 h1 h2 k3 h4 h5 h6 k7 ra0 ra1 ra2 rb0 rb1 rb2 hx hy ix iy
        · exact lawE_inf2 p0 p1 p2 p4 p5 p6 c3 o3 x3 c7 o7 x7 w hx hy ix iy
      · exact lawE_inf1 p0 p1 p2 p4 p5 p6 c3 o3 x3 c7 o7 x7 w hx hy ix
end Go.Proofs.Qxb6612270a
