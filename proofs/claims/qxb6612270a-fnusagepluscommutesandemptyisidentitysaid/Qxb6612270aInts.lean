/-
  THE CONTRACTS OVER int64 POINTERS: 'zzCloneI', 'infinite[int64]', 'largest[int64]', 'plus[int64]', 'zzTokensAre', 'zzSameI'.
-/
import Derived.Test.Qxb6612270aProg
import Derived.WalkKit
import Derived.ProofKit
import Derived.WalkSpells
import Derived.Below
import Derived.WalkLawsBesides
import Derived.Deep.QuietTactic
import Derived.BigQuiet
import Derived.RegionTactic
namespace Go.Proofs.Qxb6612270a
open Go.RowKit
set_option linter.unusedVariables false

/-- Nothing that was there has turned. -/
def Later (w w' : World) : Prop := Below w.heap.size w w'
theorem Later.refl (w : World) : Later w w := Below.refl _ _
theorem Later.trans {a b c : World} (h : Later a b) (k : Later b c) : Later a c := Below.trans h (Below.mono k h.size)
theorem Later.drewN {a w : World} (h : Later a w) (n : Nat) : Later a (w.drewN n) := Below.trans h ⟨rfl, rfl, rfl, Nat.le_refl _, fun _ _ => rfl⟩
theorem later_drewN (w : World) (n : Nat) : Later w (w.drewN n) := (Later.refl w).drewN n

/-- A pointer to an int64: nil, or it leads to a cell that holds the number. -/
def PtI (w : World) (p : Option Addr) (v : Option Int) : Prop :=
  (p = none ∧ v = none) ∨ ∃ b off x, p = some ⟨b, off, none⟩ ∧ v = some x ∧ w.cell? ⟨b, off, none⟩ = some (.int .i64 x)

theorem PtI.keep {w w' : World} {p : Option Addr} {v : Option Int} (h : PtI w p v) (hl : Later w w') : PtI w' p v := by
  rcases h with h | ⟨b, off, x, rfl, rfl, hc⟩
  · exact .inl h
  · exact .inr ⟨b, off, x, rfl, rfl, (Below.cell hl (World.block_lt_of_cell? w _ hc)).trans hc⟩

set_option maxHeartbeats 400000 in
theorem cloneI_any (p : Option Addr) (v : Option Int) (w : World) (h : PtI w p v) :
    Calls Try.prog 6 #[.pointer p] w fun e w' => ∃ q, e = .returned (.pointer q) ∧ PtI w' q v ∧ Later w w' := by
  rcases h with ⟨rfl, rfl⟩ | ⟨b, off, x, rfl, rfl, hc⟩
  · go_enter Try.func6, Try.ntmps6
    go_wp2
    go_ret
    exact ⟨_, rfl, .inl ⟨rfl, rfl⟩, Later.refl _⟩
  · go_enter Try.func6, Try.ntmps6
    go_wp2
    go_ret
    exact ⟨_, rfl, .inr ⟨w.heap.size, 0, x, rfl, rfl, by simp⟩, (Below.refl _ _).alloc (Nat.le_refl _) _⟩

theorem assI_f (x : Int) (w : World) : (Instr.typeAssert (.iface 2 (.int .i64 x)) 20 25 true).run Try.prog w = .ok (.tuple #[.float .f64 0, .bool false]) w := by kernel_rfl
theorem assPI (a : Addr) (w : World) : (Instr.typeAssert (.iface 22 (.pointer (some a))) 20 22 true).run Try.prog w = .ok (.tuple #[.pointer (some a), .bool true]) w := by kernel_rfl

theorem infI_any (x : Int) (w : World) : Calls Try.prog 17 #[.int .i64 x] w fun e w' => e = .returned (.bool false) ∧ w' = w := by
  have ha := assI_f
  go_enter Try.func17, Try.ntmps17
  go_wp2
  go_ret
  exact ⟨rfl, rfl⟩

theorem largestI_any (w : World) : Calls Try.prog 18 #[] w fun e w' => e = .returned (.int .i64 9223372036854775807) ∧ Later w w' := by
  have ha := assPI
  go_enter Try.func18, Try.ntmps18
  go_wp2
  go_ret
  exact ⟨rfl, (Below.refl _ _).alloc (Nat.le_refl _) _⟩

/-- the sum of two figures, held at the ends -/
def satI (x y : Int) : Int :=
  if x < 0 then (if y < 0 then (if wrap64 (x + y) < 0 then wrap64 (x + y) else -9223372036854775807) else wrap64 (x + y))
  else (if y < 0 then wrap64 (x + y) else (if wrap64 (x + y) < 0 then 9223372036854775807 else wrap64 (x + y)))

def addI : Option Int → Option Int → Option Int
  | none, v => v
  | some x, none => some x
  | some x, some y => some (satI x y)

theorem Later.cell {W w2 : World} {a : Addr} {v : Value} (hl : Later W w2) (h : W.cell? a = some v) : w2.cell? a = some v := (Below.cell hl (World.block_lt_of_cell? W _ h)).trans h
theorem Later.frozen {W w2 : World} {a : Addr} {v : Value} (hl : Later W w2) (h : W.cell? a = some v) (hf : W.frozen? a = false) : w2.frozen? a = false := (Below.frozen hl (World.block_lt_of_cell? W _ h)).trans hf
theorem Later.setNew {w W : World} (h : Later w W) (v : Value) : Later w (W.setCell ⟨w.heap.size, 0, none⟩ v) := Below.setCell h (Nat.le_refl _) v

theorem new_facts {w W : World} {k : Value} {b off c oc : Nat} {x y : Value} {t : TypeId} (hW : W = (w.alloc (.cells #[k] t)).drew) (hx : w.cell? ⟨b, off, none⟩ = some x) (hy : w.cell? ⟨c, oc, none⟩ = some y) :
    W.cell? ⟨b, off, none⟩ = some x ∧ W.cell? ⟨c, oc, none⟩ = some y ∧ W.cell? ⟨w.heap.size, 0, none⟩ = some k ∧ W.frozen? ⟨w.heap.size, 0, none⟩ = false ∧ Later w W ∧ w.heap.size < W.heap.size := by
  subst hW
  have hl : Later w (w.alloc (.cells #[k] t)).drew := ((Below.refl _ _).alloc (Nat.le_refl _) _).drew
  exact ⟨(Below.cell hl (World.block_lt_of_cell? w _ hx)).trans hx, (Below.cell hl (World.block_lt_of_cell? w _ hy)).trans hy, by simp, by simp, hl, by simp⟩

set_option maxHeartbeats 1000000 in
theorem plusI_both (b off c oc : Nat) (x y : Int) (w : World) (hx : w.cell? ⟨b, off, none⟩ = some (.int .i64 x)) (hy : w.cell? ⟨c, oc, none⟩ = some (.int .i64 y)) :
    Calls Try.prog 13 #[.pointer (some ⟨b, off, none⟩), .pointer (some ⟨c, oc, none⟩)] w fun e w' => ∃ q, e = .returned (.pointer q) ∧ PtI w' q (some (satI x y)) ∧ Later w w' := by
  have HR : Hid (∀ r : Int, satI x y = r → ∀ W', W'.cell? ⟨w.heap.size, 0, none⟩ = some (.int .i64 r) → PtI W' (some ⟨w.heap.size, 0, none⟩) (some (satI x y))) := fun r h W' hc => .inr ⟨_, _, r, rfl, by rw [h], hc⟩
  have HS : Hid (satI x y = if x < 0 then (if y < 0 then (if wrap64 (x + y) < 0 then wrap64 (x + y) else -9223372036854775807) else wrap64 (x + y))
  else (if y < 0 then wrap64 (x + y) else (if wrap64 (x + y) < 0 then 9223372036854775807 else wrap64 (x + y)))) := rfl
  generalize hs0 : wrap64 (x + y) = s at HS
  have hbl : b < w.heap.size := World.block_lt_of_cell? w _ hx
  have hcl : c < w.heap.size := World.block_lt_of_cell? w _ hy
  go_enter Try.func13, Try.ntmps13
  go_wp2
  go_region
  go_wp2
  obtain ⟨W, hW⟩ : ∃ W, W = (w.alloc (.cells #[.int .i64 s] 2)).drew := ⟨_, rfl⟩
  obtain ⟨cx, cy, cs, fs, hl, hz⟩ := new_facts hW hx hy
  rw [← hW]
  clear hW hx hy
  by_cases hx0 : x < 0
  · by_cases hy0 : y < 0
    · by_cases hs : s < 0
      · have d1 : decide (x < 0) = true := by simpa using hx0
        have d2 : decide (y < 0) = true := by simpa using hy0
        have d3 : decide (s < 0) = true := by simpa using hs
        have HE : Hid (satI x y = s) := by show _ = _; rw [HS.out, if_pos hx0, if_pos hy0, if_pos hs]
        go_quiet ((go_at_call 17; exact Calls.quiet_of_same (infI_any _ _)))
        go_wp2
        go_ret
        refine ⟨_, rfl, HR.out s HE.out _ ?_, ?_⟩
        · simpa using cs
        · exact hl.drewN _
      · have d1 : decide (x < 0) = true := by simpa using hx0
        have d2 : decide (y < 0) = true := by simpa using hy0
        have d3 : decide (s < 0) = false := by simpa using hs
        have HE : Hid (satI x y = (-9223372036854775807)) := by show _ = _; rw [HS.out, if_pos hx0, if_pos hy0, if_neg hs]
        go_quiet ((go_at_call 17; exact Calls.quiet_of_same (infI_any _ _)))
        go_wp2_with (go_at_call 18; refine (largestI_any _).mono ?_; rintro e w2 ⟨rfl, hl2⟩; have k1 := hl2.cell (show (W.drewN _).cell? _ = _ from cx); have k2 := hl2.cell (show (W.drewN _).cell? _ = _ from cs); have k3 := hl2.frozen (show (W.drewN _).cell? _ = _ from cs) fs; have hl3 := (hl.drewN _).trans hl2)
        go_ret
        refine ⟨_, rfl, HR.out (-9223372036854775807) HE.out _ ?_, ?_⟩
        · first | exact World.cell?_setCell_same _ _ _ k2 | exact World.cell?_setCell_same _ _ _ (World.cell?_setCell_same _ _ _ k2)
        · first | exact hl3.setNew _ | exact (hl3.setNew _).setNew _
    · by_cases hs : s < 0
      · have d1 : decide (x < 0) = true := by simpa using hx0
        have d2 : decide (y < 0) = false := by simpa using hy0
        have d3 : decide (s < 0) = true := by simpa using hs
        have HE : Hid (satI x y = s) := by show _ = _; rw [HS.out, if_pos hx0, if_neg hy0]
        go_quiet ((go_at_call 17; exact Calls.quiet_of_same (infI_any _ _)))
        go_wp2
        go_ret
        refine ⟨_, rfl, HR.out s HE.out _ ?_, ?_⟩
        · simpa using cs
        · exact hl.drewN _
      · have d1 : decide (x < 0) = true := by simpa using hx0
        have d2 : decide (y < 0) = false := by simpa using hy0
        have d3 : decide (s < 0) = false := by simpa using hs
        have HE : Hid (satI x y = s) := by show _ = _; rw [HS.out, if_pos hx0, if_neg hy0]
        go_quiet ((go_at_call 17; exact Calls.quiet_of_same (infI_any _ _)))
        go_wp2
        go_ret
        refine ⟨_, rfl, HR.out s HE.out _ ?_, ?_⟩
        · simpa using cs
        · exact hl.drewN _
  · by_cases hy0 : y < 0
    · by_cases hs : s < 0
      · have d1 : decide (x < 0) = false := by simpa using hx0
        have d2 : decide (y < 0) = true := by simpa using hy0
        have d3 : decide (s < 0) = true := by simpa using hs
        have HE : Hid (satI x y = s) := by show _ = _; rw [HS.out, if_neg hx0, if_pos hy0]
        go_quiet ((go_at_call 17; exact Calls.quiet_of_same (infI_any _ _)))
        go_wp2
        go_ret
        refine ⟨_, rfl, HR.out s HE.out _ ?_, ?_⟩
        · simpa using cs
        · exact hl.drewN _
      · have d1 : decide (x < 0) = false := by simpa using hx0
        have d2 : decide (y < 0) = true := by simpa using hy0
        have d3 : decide (s < 0) = false := by simpa using hs
        have HE : Hid (satI x y = s) := by show _ = _; rw [HS.out, if_neg hx0, if_pos hy0]
        go_quiet ((go_at_call 17; exact Calls.quiet_of_same (infI_any _ _)))
        go_wp2
        go_ret
        refine ⟨_, rfl, HR.out s HE.out _ ?_, ?_⟩
        · simpa using cs
        · exact hl.drewN _
    · by_cases hs : s < 0
      · have d1 : decide (x < 0) = false := by simpa using hx0
        have d2 : decide (y < 0) = false := by simpa using hy0
        have d3 : decide (s < 0) = true := by simpa using hs
        have HE : Hid (satI x y = (9223372036854775807)) := by show _ = _; rw [HS.out, if_neg hx0, if_neg hy0, if_pos hs]
        go_quiet ((go_at_call 17; exact Calls.quiet_of_same (infI_any _ _)))
        go_wp2_with (go_at_call 18; refine (largestI_any _).mono ?_; rintro e w2 ⟨rfl, hl2⟩; have k1 := hl2.cell (show (W.drewN _).cell? _ = _ from cx); have k2 := hl2.cell (show (W.drewN _).cell? _ = _ from cs); have k3 := hl2.frozen (show (W.drewN _).cell? _ = _ from cs) fs; have hl3 := (hl.drewN _).trans hl2)
        go_ret
        refine ⟨_, rfl, HR.out (9223372036854775807) HE.out _ ?_, ?_⟩
        · first | exact World.cell?_setCell_same _ _ _ k2 | exact World.cell?_setCell_same _ _ _ (World.cell?_setCell_same _ _ _ k2)
        · first | exact hl3.setNew _ | exact (hl3.setNew _).setNew _
      · have d1 : decide (x < 0) = false := by simpa using hx0
        have d2 : decide (y < 0) = false := by simpa using hy0
        have d3 : decide (s < 0) = false := by simpa using hs
        have HE : Hid (satI x y = s) := by show _ = _; rw [HS.out, if_neg hx0, if_neg hy0, if_neg hs]
        go_quiet ((go_at_call 17; exact Calls.quiet_of_same (infI_any _ _)))
        go_wp2
        go_ret
        refine ⟨_, rfl, HR.out s HE.out _ ?_, ?_⟩
        · simpa using cs
        · exact hl.drewN _

theorem plusI_any (p q : Option Addr) (u v : Option Int) (w : World) (hp : PtI w p u) (hq : PtI w q v) :
    Calls Try.prog 13 #[.pointer p, .pointer q] w fun e w' => ∃ r, e = .returned (.pointer r) ∧ PtI w' r (addI u v) ∧ Later w w' := by
  rcases hp with ⟨rfl, rfl⟩ | ⟨b, off, x, rfl, rfl, hx⟩
  · have HQ : Hid (PtI w q v) := hq
    clear hq
    go_enter Try.func13, Try.ntmps13
    go_wp2
    go_ret
    exact ⟨_, rfl, HQ.out, Later.refl _⟩
  · rcases hq with ⟨rfl, rfl⟩ | ⟨c, oc, y, rfl, rfl, hy⟩
    · go_enter Try.func13, Try.ntmps13
      go_wp2
      go_ret
      exact ⟨_, rfl, .inr ⟨b, off, x, rfl, rfl, hx⟩, Later.refl _⟩
    · exact plusI_both b off c oc x y w hx hy
end Go.Proofs.Qxb6612270a
