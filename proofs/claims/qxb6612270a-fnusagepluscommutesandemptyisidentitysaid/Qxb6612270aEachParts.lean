/-
  PARTS OF 'eachFigure''s WALK.
-/
import Derived.Test.Qxb6612270aTokens
import Derived.Test.Qxb6612270aCost
namespace Go.Proofs.Qxb6612270a
open Go.RowKit Fl
set_option linter.unusedVariables false

/-- A block of four pointers. -/
def Four (w : World) (B : Nat) (p0 p1 p2 p3 : Option Addr) : Prop :=
  w.cell? ⟨B, 0, none⟩ = some (.pointer p0) ∧ w.cell? ⟨B, 1, none⟩ = some (.pointer p1) ∧ w.cell? ⟨B, 2, none⟩ = some (.pointer p2) ∧ w.cell? ⟨B, 3, none⟩ = some (.pointer p3)
theorem Four.keep {w w' : World} {B : Nat} {p0 p1 p2 p3 : Option Addr} (h : Four w B p0 p1 p2 p3) (hl : Later w w') : Four w' B p0 p1 p2 p3 :=
  ⟨hl.cell h.1, hl.cell h.2.1, hl.cell h.2.2.1, hl.cell h.2.2.2⟩

/-- which pointer the cell holds (a name that the walk leaves standing) -/
def ptrAt (w : World) (a : Addr) : Option Addr := match w.cell? a with | some (.pointer p) => p | _ => none
theorem ptrAt_is {w : World} {a : Addr} {p : Option Addr} (h : w.cell? a = some (.pointer p)) : w.cell? a = some (.pointer (ptrAt w a)) := by simp [ptrAt, h]

/-- What stays while the four calls are made. -/
def Sx (w : World) (u0 u1 u2 u3 v0 v1 v2 v3 : Option Addr) (w' : World) : Prop :=
  w'.cell? ⟨w.heap.size, 0, none⟩ = some (.pointer u0) ∧ w'.cell? ⟨w.heap.size, 1, none⟩ = some (.pointer u1) ∧ w'.cell? ⟨w.heap.size, 2, none⟩ = some (.pointer u2) ∧ w'.cell? ⟨w.heap.size, 3, none⟩ = some (.pointer u3) ∧ w'.cell? ⟨w.heap.size + 1, 0, none⟩ = some (.pointer v0) ∧ w'.cell? ⟨w.heap.size + 1, 1, none⟩ = some (.pointer v1) ∧ w'.cell? ⟨w.heap.size + 1, 2, none⟩ = some (.pointer v2) ∧ w'.cell? ⟨w.heap.size + 1, 3, none⟩ = some (.pointer v3) ∧ w'.cell? ⟨w.heap.size + 1 + 1, 0, none⟩ = some (.pointer (ptrAt w' ⟨w.heap.size + 1 + 1, 0, none⟩)) ∧ w'.cell? ⟨w.heap.size + 1 + 1, 1, none⟩ = some (.pointer (ptrAt w' ⟨w.heap.size + 1 + 1, 1, none⟩)) ∧ w'.cell? ⟨w.heap.size + 1 + 1, 2, none⟩ = some (.pointer (ptrAt w' ⟨w.heap.size + 1 + 1, 2, none⟩)) ∧ w'.cell? ⟨w.heap.size + 1 + 1, 3, none⟩ = some (.pointer (ptrAt w' ⟨w.heap.size + 1 + 1, 3, none⟩)) ∧ w'.frozen? ⟨w.heap.size + 1 + 1, 0, none⟩ = false ∧ w'.frozen? ⟨w.heap.size + 1 + 1, 1, none⟩ = false ∧ w'.frozen? ⟨w.heap.size + 1 + 1, 2, none⟩ = false ∧ w'.frozen? ⟨w.heap.size + 1 + 1, 3, none⟩ = false ∧ Later w w'

theorem some_keep {w w' : World} {a : Addr} {v : Option Addr} (h : w.cell? a = some (.pointer v)) (hl : Later w w') : w'.cell? a = some (.pointer (ptrAt w' a)) := ptrAt_is (hl.cell h)
theorem frozen_keep {w w' : World} {a : Addr} {v : Value} (h : w.cell? a = some v) (hf : w.frozen? a = false) (hl : Later w w') : w'.frozen? a = false := hl.frozen h hf

theorem Sx.keep {w w1 w2 : World} {u0 u1 u2 u3 v0 v1 v2 v3 : Option Addr} (hl : Later w1 w2) (h : Sx w u0 u1 u2 u3 v0 v1 v2 v3 w1) : Sx w u0 u1 u2 u3 v0 v1 v2 v3 w2 := by
  obtain ⟨c0, c1, c2, c3, d0, d1, d2, d3, e0, e1, e2, e3, f0, f1, f2, f3, hl0⟩ := h
  exact ⟨hl.cell c0, hl.cell c1, hl.cell c2, hl.cell c3, hl.cell d0, hl.cell d1, hl.cell d2, hl.cell d3, some_keep e0 hl, some_keep e1 hl, some_keep e2 hl, some_keep e3 hl,
    frozen_keep e0 f0 hl, frozen_keep e1 f1 hl, frozen_keep e2 f2 hl, frozen_keep e3 f3 hl, hl0.trans hl⟩
theorem ptr_store {w : World} {a b : Addr} {p q : Option Addr} (h : w.cell? b = some (.pointer p)) : (w.setCell a (.pointer q)).cell? b = some (.pointer (ptrAt (w.setCell a (.pointer q)) b)) := by
  by_cases e : a = b
  · subst e; exact ptrAt_is (World.cell?_setCell_same _ _ _ h)
  · exact ptrAt_is ((World.cell?_setCell_other _ _ _ _ e).trans h)
theorem far_store {w : World} {B k : Nat} {b : Addr} {v x : Value} (h : w.cell? b = some v) (hB : B ≠ b.block) : (w.setCell ⟨B, k, none⟩ x).cell? b = some v :=
  (World.cell?_setCell_other _ _ _ _ (fun e => hB (by rw [← e]))).trans h

theorem Sx.store {w w1 : World} {u0 u1 u2 u3 v0 v1 v2 v3 : Option Addr} (h : Sx w u0 u1 u2 u3 v0 v1 v2 v3 w1) (k : Nat) (q : Option Addr) : Sx w u0 u1 u2 u3 v0 v1 v2 v3 (w1.setCell ⟨w.heap.size + 1 + 1, k, none⟩ (.pointer q)) := by
  obtain ⟨c0, c1, c2, c3, d0, d1, d2, d3, e0, e1, e2, e3, f0, f1, f2, f3, hl0⟩ := h
  refine ⟨far_store c0 ?_, far_store c1 ?_, far_store c2 ?_, far_store c3 ?_, far_store d0 ?_, far_store d1 ?_, far_store d2 ?_, far_store d3 ?_, ptr_store e0, ptr_store e1, ptr_store e2, ptr_store e3, ?_, ?_, ?_, ?_, Below.setCell hl0 (by simp; omega) _⟩
  all_goals first | (simp; omega) | (rw [World.frozen?_setCell]; assumption) | simp

theorem PtI.store {w1 : World} {a : Addr} {p : Option Addr} {x : Value} {r : Option Addr} {v : Option Int} (h : PtI w1 r v) (hp : w1.cell? a = some (.pointer p)) : PtI (w1.setCell a x) r v := by
  rcases h with h | ⟨b, off, y, rfl, rfl, hc⟩
  · exact .inl h
  · refine .inr ⟨b, off, y, rfl, rfl, (World.cell?_setCell_other _ _ _ _ (fun e => ?_)).trans hc⟩
    rw [e, hc] at hp; cases hp
theorem PtF.store {w1 : World} {a : Addr} {p : Option Addr} {x : Value} {r : Option Addr} {v : Option Nat} (h : PtF w1 r v) (hp : w1.cell? a = some (.pointer p)) : PtF (w1.setCell a x) r v := by
  rcases h with h | ⟨b, off, y, rfl, rfl, hb, hc⟩
  · exact .inl h
  · refine .inr ⟨b, off, y, rfl, rfl, hb, (World.cell?_setCell_other _ _ _ _ (fun e => ?_)).trans hc⟩
    rw [e, hc] at hp; cases hp

/-- Behind the last store. -/
theorem Sx.final {w w1 : World} {u0 u1 u2 u3 v0 v1 v2 v3 : Option Addr} (h : Sx w u0 u1 u2 u3 v0 v1 v2 v3 w1) (r0 r1 r2 r3 : Option Addr) {W : World} (hW : W = (((w1.setCell ⟨w.heap.size + 1 + 1, 0, none⟩ (.pointer r0)).setCell ⟨w.heap.size + 1 + 1, 1, none⟩ (.pointer r1)).setCell ⟨w.heap.size + 1 + 1, 2, none⟩ (.pointer r2)).setCell ⟨w.heap.size + 1 + 1, 3, none⟩ (.pointer r3)) :
    (∀ r v, PtI w1 r v → PtI W r v) ∧ (∀ r v, PtF w1 r v → PtF W r v) ∧ Later w W ∧ Four W (w.heap.size + 1 + 1) r0 r1 r2 r3 := by
  have h1 := h.store 0 r0
  have h2 := h1.store 1 r1
  have h3 := h2.store 2 r2
  have h4 := h3.store 3 r3
  have k0 := h.2.2.2.2.2.2.2.2.1
  have k1 := h1.2.2.2.2.2.2.2.2.2.1
  have k2 := h2.2.2.2.2.2.2.2.2.2.2.1
  have k3 := h3.2.2.2.2.2.2.2.2.2.2.2.1
  subst hW
  refine ⟨fun r v hr => (((hr.store k0).store k1).store k2).store k3, fun r v hr => (((hr.store k0).store k1).store k2).store k3, h4.2.2.2.2.2.2.2.2.2.2.2.2.2.2.2.2, ?_, ?_, ?_, ?_⟩
  · rw [World.cell?_setCell_other _ _ _ _ (by simp), World.cell?_setCell_other _ _ _ _ (by simp), World.cell?_setCell_other _ _ _ _ (by simp)]
    exact World.cell?_setCell_same _ _ _ k0
  · rw [World.cell?_setCell_other _ _ _ _ (by simp), World.cell?_setCell_other _ _ _ _ (by simp)]
    exact World.cell?_setCell_same _ _ _ k1
  · rw [World.cell?_setCell_other _ _ _ _ (by simp)]
    exact World.cell?_setCell_same _ _ _ k2
  · exact World.cell?_setCell_same _ _ _ k3

theorem Sx.later {w w1 : World} {u0 u1 u2 u3 v0 v1 v2 v3 : Option Addr} (h : Sx w u0 u1 u2 u3 v0 v1 v2 v3 w1) : Later w w1 := h.2.2.2.2.2.2.2.2.2.2.2.2.2.2.2.2

theorem Sx.start (w : World) (u0 u1 u2 u3 v0 v1 v2 v3 : Option Addr) :
    Sx w u0 u1 u2 u3 v0 v1 v2 v3 (((w.alloc (.cells #[.pointer u0, .pointer u1, .pointer u2, .pointer u3] 29)).alloc (.cells #[.pointer v0, .pointer v1, .pointer v2, .pointer v3] 29)).alloc (.cells #[.pointer none, .pointer none, .pointer none, .pointer none] 29)).drew := by
  have hl : Later w (((w.alloc (.cells #[.pointer u0, .pointer u1, .pointer u2, .pointer u3] 29)).alloc (.cells #[.pointer v0, .pointer v1, .pointer v2, .pointer v3] 29)).alloc (.cells #[.pointer none, .pointer none, .pointer none, .pointer none] 29)).drew :=
    ((((Below.refl _ _).alloc (Nat.le_refl _) _).alloc (by simp) _).alloc (by simp; omega) _).drew
  refine ⟨?_, ?_, ?_, ?_, ?_, ?_, ?_, ?_, ?_, ?_, ?_, ?_, ?_, ?_, ?_, ?_, hl⟩ <;> simp [go_sem, ptrAt]

end Go.Proofs.Qxb6612270a
