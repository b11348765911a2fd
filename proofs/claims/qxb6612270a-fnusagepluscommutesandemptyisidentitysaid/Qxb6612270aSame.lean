/-
  'zzSameUsage', and the plain laws: the sum commutes.
-/
import Derived.Test.Qxb6612270aWalkE
namespace Go.Proofs.Qxb6612270a
open Go.RowKit Fl
set_option linter.unusedVariables false

theorem satI_comm (x y : Int) : satI x y = satI y x := by
  unfold satI
  rw [Int.add_comm y x]
  by_cases hx : x < 0 <;> by_cases hy : y < 0 <;> simp [hx, hy]
theorem addI_comm (u v : Option Int) : addI u v = addI v u := by
  cases u <;> cases v <;> simp [addI]
  exact satI_comm _ _
theorem addI_none (u : Option Int) : addI u none = u := by cases u <;> rfl

theorem SameF.refl (u : Option Nat) : SameF u u := by
  cases u with
  | none => trivial
  | some x => cases h : nanB x
              · exact .inr ⟨rfl, h⟩
              · exact .inl ⟨h, h⟩

theorem max_nan : nanB 9218868437227405311 = false := by decide +kernel
theorem min_nan : nanB 18442240474082181119 = false := by decide +kernel

theorem sum_same {x y s t : Nat} (hs : SumF x y s) (ht : SumF y x t) (ix : infB x = false) (iy : infB y = false) : SameF (some s) (some t) := by
  by_cases hnx : nanB x = true
  · exact .inl ⟨hs.1 (.inl hnx), ht.1 (.inr hnx)⟩
  · by_cases hny : nanB y = true
    · exact .inl ⟨hs.1 (.inr hny), ht.1 (.inl hny)⟩
    · have fx := fin_of hnx ix
      have fy := fin_of hny iy
      have e1 := hs.2 fx fy
      have e2 := ht.2 fy fx
      obtain ⟨r, hr, h, _⟩ := add_fin x y fx fy
      have hr2 : Ieee.double.add y x = some r := by rw [← add_comm_fin x y fx fy]; exact hr
      unfold satF at e1 e2
      rw [hr] at e1
      rw [hr2] at e2
      simp only at e1 e2
      rcases h with h | ⟨h, h1, h2⟩ | ⟨h, h1, h2⟩
      · rw [(fin_not h).1] at e1 e2
        simp only [Bool.false_eq_true, if_false] at e1 e2
        subst e1 e2
        exact .inr ⟨rfl, (fin_not h).2⟩
      · rw [(inf_of_read h).1, h1] at e1
        rw [(inf_of_read h).1, h2] at e2
        simp only [Bool.false_eq_true, if_false, if_true] at e1 e2
        rw [e1, e2]
        exact .inr ⟨rfl, max_nan⟩
      · rw [(inf_of_read h).1, h1] at e1
        rw [(inf_of_read h).1, h2] at e2
        simp only [if_true] at e1 e2
        rw [e1, e2]
        exact .inr ⟨rfl, min_nan⟩

theorem NoInf.swap {u v : Option Nat} (h : NoInf u v) : NoInf v u := fun x y hx hy => ⟨(h y x hy hx).2, (h y x hy hx).1⟩
theorem NoInf.left (v : Option Nat) : NoInf none v := fun x y h => by cases h
theorem NoInf.right (u : Option Nat) : NoInf u none := fun x y _ h => by cases h

theorem rel_same {u v z t : Option Nat} (hz : RelF u v z) (ht : RelF v u t) (hi : NoInf u v) : SameF z t := by
  cases u with
  | none =>
    cases v with
    | none => cases hz; cases ht; trivial
    | some y => cases hz; cases ht; exact SameF.refl _
  | some x =>
    cases v with
    | none => cases hz; cases ht; exact SameF.refl _
    | some y =>
      obtain ⟨s, rfl, hs⟩ := hz
      obtain ⟨t', rfl, ht'⟩ := ht
      obtain ⟨ix, iy⟩ := hi x y rfl rfl
      exact sum_same hs ht' ix iy
theorem rel_right {u z : Option Nat} (hz : RelF u none z) : SameF z u := by
  cases u <;> (cases hz; exact SameF.refl _)
theorem rel_left {u z : Option Nat} (hz : RelF none u z) : SameF z u := by
  cases hz; exact SameF.refl _

set_option maxHeartbeats 1000000 in
theorem sameUsage_any (r0 r1 r2 r3 s0 s1 s2 s3 : Option Addr) (c0 c1 c2 : Option Int) (y z : Option Nat) (w : World)
    (hr0 : PtI w r0 c0) (hr1 : PtI w r1 c1) (hr2 : PtI w r2 c2) (hr3 : PtF w r3 y) (hs0 : PtI w s0 c0) (hs1 : PtI w s1 c1) (hs2 : PtI w s2 c2) (hs3 : PtF w s3 z) (hq : SameF y z) :
    Calls Try.prog 11 #[.agg #[.pointer r0, .pointer r1, .pointer r2, .pointer r3], .agg #[.pointer s0, .pointer s1, .pointer s2, .pointer s3]] w fun e w' => e = .returned (.bool true) ∧ Later w w' := by
  obtain ⟨W, hW⟩ : ∃ W, W = (w.alloc (.cells #[.pointer r0, .pointer r1, .pointer r2, .pointer r3] 29)).alloc (.cells #[.pointer s0, .pointer s1, .pointer s2, .pointer s3] 29) := ⟨_, rfl⟩
  have hl : Later w ((w.alloc (.cells #[.pointer r0, .pointer r1, .pointer r2, .pointer r3] 29)).alloc (.cells #[.pointer s0, .pointer s1, .pointer s2, .pointer s3] 29)) := ((Later.refl w).alloc _).alloc _
  clear hW W
  have T0 : Hid (∀ n, PtI (World.drewN _ n) r0 c0) := fun n => hr0.keep (hl.drewN n)
  have S0 : Hid (∀ n, PtI (World.drewN _ n) s0 c0) := fun n => hs0.keep (hl.drewN n)
  have T1 : Hid (∀ n, PtI (World.drewN _ n) r1 c1) := fun n => hr1.keep (hl.drewN n)
  have S1 : Hid (∀ n, PtI (World.drewN _ n) s1 c1) := fun n => hs1.keep (hl.drewN n)
  have T2 : Hid (∀ n, PtI (World.drewN _ n) r2 c2) := fun n => hr2.keep (hl.drewN n)
  have S2 : Hid (∀ n, PtI (World.drewN _ n) s2 c2) := fun n => hs2.keep (hl.drewN n)
  have T3 : Hid (∀ n, PtF (World.drewN _ n) r3 y) := fun n => hr3.keep (hl.drewN n)
  have S3 : Hid (∀ n, PtF (World.drewN _ n) s3 z) := fun n => hs3.keep (hl.drewN n)
  have HQ : Hid (SameF y z) := hq
  have HL : Hid (∀ n, Later w (World.drewN _ n)) := fun n => hl.drewN n
  clear hr0 hr1 hr2 hr3 hs0 hs1 hs2 hs3 hq hl
  go_enter Try.func11, Try.ntmps11
  go_wp2_with fail
  refine (sameI_any r0 s0 c0 _ (T0.out 0) (S0.out 0)).mono ?_
  rintro e w' ⟨rfl, n1, rfl⟩
  go_wp2_with fail
  refine (sameI_any r1 s1 c1 _ (T1.out _) (S1.out _)).mono ?_
  rintro e w' ⟨rfl, n2, rfl⟩
  go_wp2_with fail
  refine (sameI_any r2 s2 c2 _ (T2.out _) (S2.out _)).mono ?_
  rintro e w' ⟨rfl, n3, rfl⟩
  go_wp2_with fail
  refine (sameF_any r3 s3 y z _ (T3.out _) (S3.out _) HQ.out).mono ?_
  rintro e w' ⟨rfl, n4, rfl⟩
  go_wp2_with fail
  go_ret
  exact ⟨rfl, by first | exact HL.out _ | (simp only [World.drewN_drewN]; exact HL.out _)⟩
end Go.Proofs.Qxb6612270a
