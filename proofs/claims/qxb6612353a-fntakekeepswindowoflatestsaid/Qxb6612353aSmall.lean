/-
  SMALL CONTRACTS.
-/
import Derived.Test.Qxb6612353aProg
import Derived.Test.Qxb6612353aPlain
import Derived.WalkKit
import Derived.ProofKit
import Derived.WalkSpells
import Derived.Below
import Derived.WalkLawsBesides
import Derived.Deep.QuietTactic
import Derived.BigQuiet
import Derived.RegionTactic
import Derived.BigRegion
namespace Go.Proofs.Qxb6612353a
open Go.RowKit
set_option linter.unusedVariables false

/-- Nothing that was there has turned. -/
def Later (w w' : World) : Prop := Below w.heap.size w w'
theorem Later.refl (w : World) : Later w w := Below.refl _ _
theorem Later.trans {a b c : World} (h : Later a b) (k : Later b c) : Later a c := Below.trans h (Below.mono k h.size)
theorem Later.drewN {a w : World} (h : Later a w) (n : Nat) : Later a (w.drewN n) := Below.trans h ⟨rfl, rfl, rfl, Nat.le_refl _, fun _ _ => rfl⟩
theorem Later.alloc {a w : World} (h : Later a w) (o : Obj) : Later a (w.alloc o) := Below.alloc h h.size o
theorem Later.cell {W w2 : World} {a : Addr} {v : Value} (hl : Later W w2) (h : W.cell? a = some v) : w2.cell? a = some v := (Below.cell hl (World.block_lt_of_cell? W _ h)).trans h
theorem Later.frozen {W w2 : World} {a : Addr} {v : Value} (hl : Later W w2) (h : W.cell? a = some v) (hf : W.frozen? a = false) : w2.frozen? a = false := (Below.frozen hl (World.block_lt_of_cell? W _ h)).trans hf

/-- an outcome as a value -/
def oV (o : O) : Value := .agg #[.int .i64 o.1, .bool o.2.1, .int .i64 o.2.2]
theorem ret_bool {a b : Bool} (h : a = b) : Ending.returned (.bool a) = .returned (.bool b) := by rw [h]
theorem ret_int {k : IntKind} {a b : Int} (h : a = b) : Ending.returned (.int k a) = .returned (.int k b) := by rw [h]

theorem failedByDoc_any (s : Int) (t : Bool) (l : Int) (w : World) : Calls Try.prog 32 #[.agg #[.int .i64 s, .bool t, .int .i64 l]] w fun e w' => e = .returned (.bool (failB s)) ∧ Later w w' := by
  by_cases h0 : s = 0
  · subst h0
    go_enter Try.func32, Try.ntmps32
    go_wp2
    go_ret
    exact ⟨rfl, (Later.refl w).alloc _⟩
  · by_cases h4 : s = 429
    · subst h4
      go_enter Try.func32, Try.ntmps32
      go_wp2
      go_ret
      exact ⟨rfl, (Later.refl w).alloc _⟩
    · have e0 : (s == 0) = false := by simpa using h0
      have e4 : (s == 429) = false := by simpa using h4
      have HE : Hid (failB s = decide (500 ≤ s)) := by show _ = _; simp [failB, h0, h4]
      clear h0 h4
      go_enter Try.func32, Try.ntmps32
      go_wp2
      go_ret
      exact ⟨ret_bool HE.out.symm, (Later.refl w).alloc _⟩

theorem failed_any (s : Int) (t : Bool) (l : Int) (w : World) : Calls Try.prog 42 #[.agg #[.int .i64 s, .bool t, .int .i64 l]] w fun e w' => e = .returned (.bool (failB s)) ∧ Later w w' := by
  by_cases h0 : s = 0
  · subst h0
    go_enter Try.func42, Try.ntmps42
    go_wp2
    go_ret
    exact ⟨rfl, (Later.refl w).alloc _⟩
  · by_cases h4 : s = 429
    · subst h4
      go_enter Try.func42, Try.ntmps42
      go_wp2
      go_ret
      exact ⟨rfl, (Later.refl w).alloc _⟩
    · have e0 : (s == 0) = false := by simpa using h0
      have e4 : (s == 429) = false := by simpa using h4
      have HE : Hid (failB s = decide (500 ≤ s)) := by show _ = _; simp [failB, h0, h4]
      clear h0 h4
      go_enter Try.func42, Try.ntmps42
      go_wp2
      go_ret
      exact ⟨ret_bool HE.out.symm, (Later.refl w).alloc _⟩

theorem zzoutcome_any (s : Int) (t : Bool) (l : Int) (w : World) : Calls Try.prog 34 #[.int .i64 s, .bool t, .int .i64 l] w fun e w' => e = .returned (.agg #[.int .i64 s, .bool t, .int .i64 l]) ∧ Later w w' := by
  go_enter Try.func34, Try.ntmps34
  go_wp2
  exact bodyPost_ret (v := .agg #[.int .i64 s, .bool t, .int .i64 l]) (by simp [results, Try.results34, go_sem]) rfl ⟨rfl, (Later.refl w).alloc _⟩

theorem new3 {w w2 : World} {o1 o2 : Obj} {c0 c1 c2 : Value} (ho : o2 = .cells #[c0, c1, c2] 36) (hl : Later ((w.alloc o1).alloc o2) w2) :
    w2.cell? ⟨w.heap.size + 1, 0, none⟩ = some c0 ∧ w2.cell? ⟨w.heap.size + 1, 1, none⟩ = some c1 ∧ w2.cell? ⟨w.heap.size + 1, 2, none⟩ = some c2 ∧
    w2.frozen? ⟨w.heap.size + 1, 0, none⟩ = false ∧ w2.frozen? ⟨w.heap.size + 1, 1, none⟩ = false ∧ w2.frozen? ⟨w.heap.size + 1, 2, none⟩ = false := by
  subst ho
  have c0' : ((w.alloc o1).alloc (.cells #[c0, c1, c2] 36)).cell? ⟨w.heap.size + 1, 0, none⟩ = some c0 := by simp [go_sem]
  have c1' : ((w.alloc o1).alloc (.cells #[c0, c1, c2] 36)).cell? ⟨w.heap.size + 1, 1, none⟩ = some c1 := by simp [go_sem]
  have c2' : ((w.alloc o1).alloc (.cells #[c0, c1, c2] 36)).cell? ⟨w.heap.size + 1, 2, none⟩ = some c2 := by simp [go_sem]
  exact ⟨hl.cell c0', hl.cell c1', hl.cell c2', hl.frozen c0' (by simp [go_sem]), hl.frozen c1' (by simp [go_sem]), hl.frozen c2' (by simp [go_sem])⟩

theorem toOutcome_any (s : Int) (t : Bool) (l : Int) (w : World) : Calls Try.prog 12 #[.agg #[.int .i64 s, .bool t, .int .i64 l]] w fun e w' => e = .returned (.agg #[.int .i64 s, .bool t, .int .i64 l]) ∧ Later w w' := by
  go_enter Try.func12, Try.ntmps12
  go_wp2_with (go_at_call 34; refine (zzoutcome_any s t l _).mono ?_; rintro e w2 ⟨rfl, hl⟩; obtain ⟨c0, c1, c2, f0, f1, f2⟩ := new3 rfl hl)
  have hL : Later w ((((w2.setCell ⟨w.heap.size + 1, 0, none⟩ (.int .i64 s)).setCell ⟨w.heap.size + 1, 1, none⟩ (.bool t)).setCell ⟨w.heap.size + 1, 2, none⟩ (.int .i64 l))) := by
    have h1 : Later w w2 := (((Later.refl w).alloc _).alloc _).trans hl
    exact Below.setCell (Below.setCell (Below.setCell h1 (by simp) _) (by simp) _) (by simp) _
  have d0 : (((w2.setCell ⟨w.heap.size + 1, 0, none⟩ (.int .i64 s)).setCell ⟨w.heap.size + 1, 1, none⟩ (.bool t)).setCell ⟨w.heap.size + 1, 2, none⟩ (.int .i64 l)).cell? ⟨w.heap.size + 1, 0, none⟩ = some (.int .i64 s) := by
    rw [World.cell?_setCell_other _ _ _ _ (by simp), World.cell?_setCell_other _ _ _ _ (by simp)]; exact World.cell?_setCell_same _ _ _ c0
  have d1 : (((w2.setCell ⟨w.heap.size + 1, 0, none⟩ (.int .i64 s)).setCell ⟨w.heap.size + 1, 1, none⟩ (.bool t)).setCell ⟨w.heap.size + 1, 2, none⟩ (.int .i64 l)).cell? ⟨w.heap.size + 1, 1, none⟩ = some (.bool t) := by
    rw [World.cell?_setCell_other _ _ _ _ (by simp)]; exact World.cell?_setCell_same _ _ _ ((World.cell?_setCell_other _ _ _ _ (by simp)).trans c1)
  have d2 : (((w2.setCell ⟨w.heap.size + 1, 0, none⟩ (.int .i64 s)).setCell ⟨w.heap.size + 1, 1, none⟩ (.bool t)).setCell ⟨w.heap.size + 1, 2, none⟩ (.int .i64 l)).cell? ⟨w.heap.size + 1, 2, none⟩ = some (.int .i64 l) :=
    World.cell?_setCell_same _ _ _ ((World.cell?_setCell_other _ _ _ _ (by simp)).trans ((World.cell?_setCell_other _ _ _ _ (by simp)).trans c2))
  exact bodyPost_ret (v := .agg #[.int .i64 s, .bool t, .int .i64 l]) (by simp [results, Try.results12, go_sem, d0, d1, d2]) rfl ⟨rfl, hL⟩

end Go.Proofs.Qxb6612353a
