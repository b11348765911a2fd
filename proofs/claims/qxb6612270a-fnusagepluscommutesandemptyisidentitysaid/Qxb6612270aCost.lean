/-
  'zzCostIs', 'zzSameF'.
-/
import Derived.Test.Qxb6612270aFlts
namespace Go.Proofs.Qxb6612270a
open Go.RowKit Fl
set_option linter.unusedVariables false

theorem ord_self_nan {x : Nat} (h : nanB x = true) : (FloatKind.f64.format.order x x != some Ordering.eq) = true := (gt_self_nan x).trans h
theorem ord_self_not {x : Nat} (h : nanB x = false) : (FloatKind.f64.format.order x x != some Ordering.eq) = false := (gt_self_nan x).trans h
theorem ord_self_eq {x : Nat} (h : nanB x = false) : (FloatKind.f64.format.order x x == some Ordering.eq) = true := by
  have h1 := ord_self_not h
  simpa [bne] using h1
theorem ord_nan_gt {x : Nat} (y : Nat) (h : nanB x = true) : (FloatKind.f64.format.order x y == some Ordering.gt) = false := by
  have : FloatKind.f64.format.order x y = none := nan_order x y h
  rw [this]; rfl
theorem ord_nan_lt {x : Nat} (y : Nat) (h : nanB x = true) : (FloatKind.f64.format.order x y == some Ordering.lt) = false := by
  have : FloatKind.f64.format.order x y = none := nan_order x y h
  rw [this]; rfl

/-- The last part of 'zzCostIs' where one of the two is given alone. -/
theorem costIs_left (c oc g og y : Nat) (w : World) (hy : w.cell? ⟨c, oc, none⟩ = some (.float .f64 y)) (hg : w.cell? ⟨g, og, none⟩ = some (.float .f64 y)) :
    Calls Try.prog 10 #[.pointer (some ⟨g, og, none⟩), .pointer none, .pointer (some ⟨c, oc, none⟩)] w fun e w' => e = .returned (.bool true) ∧ ∃ n, w' = w.drewN n := by
  by_cases hn : nanB y = true
  · have d := ord_self_nan hn
    clear hn
    go_enter Try.func10, Try.ntmps10
    go_wp2
    go_quiet (fail)
    go_wp2
    go_ret
    exact ⟨rfl, _, rfl⟩
  · have hn' : nanB y = false := by simpa using hn
    have d := ord_self_not hn'
    have d2 := ord_self_eq hn'
    clear hn hn'
    go_enter Try.func10, Try.ntmps10
    go_wp2
    go_ret
    exact ⟨rfl, 0, rfl⟩

theorem costIs_right (c oc g og y : Nat) (w : World) (hy : w.cell? ⟨c, oc, none⟩ = some (.float .f64 y)) (hg : w.cell? ⟨g, og, none⟩ = some (.float .f64 y)) :
    Calls Try.prog 10 #[.pointer (some ⟨g, og, none⟩), .pointer (some ⟨c, oc, none⟩), .pointer none] w fun e w' => e = .returned (.bool true) ∧ ∃ n, w' = w.drewN n := by
  by_cases hn : nanB y = true
  · have d := ord_self_nan hn
    clear hn
    go_enter Try.func10, Try.ntmps10
    go_wp2
    go_quiet (fail)
    go_wp2
    go_ret
    exact ⟨rfl, _, rfl⟩
  · have hn' : nanB y = false := by simpa using hn
    have d := ord_self_not hn'
    have d2 := ord_self_eq hn'
    clear hn hn'
    go_enter Try.func10, Try.ntmps10
    go_wp2
    go_ret
    exact ⟨rfl, 0, rfl⟩

set_option maxHeartbeats 400000 in
theorem costIs_nan (b off c oc g og x y z : Nat) (w : World) (hx : w.cell? ⟨b, off, none⟩ = some (.float .f64 x)) (hy : w.cell? ⟨c, oc, none⟩ = some (.float .f64 y)) (hg : w.cell? ⟨g, og, none⟩ = some (.float .f64 z))
    (hn : nanB x = true ∨ nanB y = true) (hz : nanB z = true) :
    Calls Try.prog 10 #[.pointer (some ⟨g, og, none⟩), .pointer (some ⟨b, off, none⟩), .pointer (some ⟨c, oc, none⟩)] w fun e w' => e = .returned (.bool true) ∧ ∃ n, w' = w.drewN n := by
  have hadd := run_add_nan x y (hn.elim (add_nan_l x y) (add_nan_r x y))
  obtain ⟨r, hr⟩ : ∃ r, r = Question.cut (.nanBits .f64 x y) (w.tape (w.drawn + 1) (.nanBits .f64 x y)) := ⟨_, rfl⟩
  have rn : nanB r = true := by rw [hr]; exact cut_nan _ _ _
  have d0 := ord_self_nan hz
  have d1 := ord_self_nan rn
  have d2 := ord_nan_gt 9218868437227405311 rn
  have d3 := ord_nan_lt 18442240474082181119 rn
  have HR : Hid (r = Question.cut (.nanBits .f64 x y) (w.tape (w.drawn + 1) (.nanBits .f64 x y))) := hr
  clear hn hz rn hr
  go_enter Try.func10, Try.ntmps10
  go_wp2
  go_region
  rw [← HR.out]
  go_wp2
  go_quiet (fail)
  go_wp2
  go_ret
  exact ⟨rfl, 1 + (1 + nq), by simp only [World.drewN_drew]⟩

set_option maxHeartbeats 400000 in
theorem costIs_fin (b off c oc g og x y z : Nat) (w : World) (hx : w.cell? ⟨b, off, none⟩ = some (.float .f64 x)) (hy : w.cell? ⟨c, oc, none⟩ = some (.float .f64 y)) (hg : w.cell? ⟨g, og, none⟩ = some (.float .f64 z))
    (hz : Ieee.double.add x y = some z) (fz : finB z = true) :
    Calls Try.prog 10 #[.pointer (some ⟨g, og, none⟩), .pointer (some ⟨b, off, none⟩), .pointer (some ⟨c, oc, none⟩)] w fun e w' => e = .returned (.bool true) ∧ ∃ n, w' = w.drewN n := by
  have hadd := fun W => run_float_arith (P := Try.prog) W .add 25 .f64 x y z hz
  have d0 := ord_self_not (fin_not fz).2
  have d1 := ord_self_eq (fin_not fz).2
  have d2 : (FloatKind.f64.format.order z 9218868437227405311 == some Ordering.gt) = false := by
    have := (fin_gt z fz).1
    have e : FloatKind.f64.format.order z 9218868437227405311 ≠ some .gt := this
    simpa using e
  have d3 : (FloatKind.f64.format.order z 18442240474082181119 == some Ordering.lt) = false := by
    have := (fin_gt z fz).2
    have e : FloatKind.f64.format.order z 18442240474082181119 ≠ some .lt := this
    simpa using e
  clear hz fz
  go_enter Try.func10, Try.ntmps10
  go_wp2
  go_region
  go_wp2
  go_ret
  exact ⟨rfl, 1, rfl⟩

theorem max_eq : (FloatKind.f64.format.order 9218868437227405311 9218868437227405311 == some Ordering.eq) = true := by decide +kernel
theorem max_ne : (FloatKind.f64.format.order 9218868437227405311 9218868437227405311 != some Ordering.eq) = false := by decide +kernel
theorem min_eq : (FloatKind.f64.format.order 18442240474082181119 18442240474082181119 == some Ordering.eq) = true := by decide +kernel
theorem min_ne : (FloatKind.f64.format.order 18442240474082181119 18442240474082181119 != some Ordering.eq) = false := by decide +kernel

set_option maxHeartbeats 400000 in
theorem costIs_up (b off c oc g og x y z : Nat) (w : World) (hx : w.cell? ⟨b, off, none⟩ = some (.float .f64 x)) (hy : w.cell? ⟨c, oc, none⟩ = some (.float .f64 y)) (hg : w.cell? ⟨g, og, none⟩ = some (.float .f64 9218868437227405311))
    (hz : Ieee.double.add x y = some z) (fz : Ieee.double.read z = .infinity false) :
    Calls Try.prog 10 #[.pointer (some ⟨g, og, none⟩), .pointer (some ⟨b, off, none⟩), .pointer (some ⟨c, oc, none⟩)] w fun e w' => e = .returned (.bool true) ∧ ∃ n, w' = w.drewN n := by
  have hadd := fun W => run_float_arith (P := Try.prog) W .add 25 .f64 x y z hz
  have d0 := max_ne
  have d1 := max_eq
  have d2 : (FloatKind.f64.format.order z 9218868437227405311 == some Ordering.gt) = true := beq_iff_eq.2 ((gt_max z).2 fz)
  clear hz fz
  go_enter Try.func10, Try.ntmps10
  go_wp2
  go_region
  go_wp2
  go_ret
  exact ⟨rfl, 1, rfl⟩

set_option maxHeartbeats 400000 in
theorem costIs_down (b off c oc g og x y z : Nat) (w : World) (hx : w.cell? ⟨b, off, none⟩ = some (.float .f64 x)) (hy : w.cell? ⟨c, oc, none⟩ = some (.float .f64 y)) (hg : w.cell? ⟨g, og, none⟩ = some (.float .f64 18442240474082181119))
    (hz : Ieee.double.add x y = some z) (fz : Ieee.double.read z = .infinity true) :
    Calls Try.prog 10 #[.pointer (some ⟨g, og, none⟩), .pointer (some ⟨b, off, none⟩), .pointer (some ⟨c, oc, none⟩)] w fun e w' => e = .returned (.bool true) ∧ ∃ n, w' = w.drewN n := by
  have hadd := fun W => run_float_arith (P := Try.prog) W .add 25 .f64 x y z hz
  have d0 := min_ne
  have d1 := min_eq
  have d2 : (FloatKind.f64.format.order z 9218868437227405311 == some Ordering.gt) = false := by
    have e : FloatKind.f64.format.order z 9218868437227405311 ≠ some .gt := fun h => by
      have := (gt_max z).1 h
      rw [fz] at this; cases this
    simpa using e
  have d3 : (FloatKind.f64.format.order z 18442240474082181119 == some Ordering.lt) = true := beq_iff_eq.2 ((lt_min z).2 fz)
  clear hz fz
  go_enter Try.func10, Try.ntmps10
  go_wp2
  go_region
  go_wp2
  go_ret
  exact ⟨rfl, 1, rfl⟩

theorem costIs_any (g p q : Option Addr) (u v r : Option Nat) (w : World) (hg : PtF w g r) (hp : PtF w p u) (hq : PtF w q v) (hr : RelF u v r) (hi : NoInf u v) :
    Calls Try.prog 10 #[.pointer g, .pointer p, .pointer q] w fun e w' => e = .returned (.bool true) ∧ ∃ n, w' = w.drewN n := by
  rcases hp with ⟨rfl, rfl⟩ | ⟨b, off, x, rfl, rfl, hbx, hx⟩
  · rcases hq with ⟨rfl, rfl⟩ | ⟨c, oc, y, rfl, rfl, hby, hy⟩
    · cases hr
      rcases hg with ⟨rfl, _⟩ | ⟨g, og, z, rfl, h, _, hz⟩
      · clear hi
        go_enter Try.func10, Try.ntmps10
        go_wp2
        go_ret
        exact ⟨rfl, 0, rfl⟩
      · cases h
    · cases hr
      rcases hg with ⟨rfl, h⟩ | ⟨g, og, z, rfl, h, _, hz⟩
      · cases h
      · cases h
        exact costIs_left c oc g og y w hy hz
  · rcases hq with ⟨rfl, rfl⟩ | ⟨c, oc, y, rfl, rfl, hby, hy⟩
    · cases hr
      rcases hg with ⟨rfl, h⟩ | ⟨g, og, z, rfl, h, _, hz⟩
      · cases h
      · cases h
        exact costIs_right b off g og x w hx hz
    · obtain ⟨z, rfl, hs⟩ := hr
      rcases hg with ⟨rfl, h⟩ | ⟨g, og, z', rfl, h, _, hz⟩
      · cases h
      · cases h
        obtain ⟨ix, iy⟩ := hi x y rfl rfl
        by_cases hnx : nanB x = true
        · exact costIs_nan b off c oc g og x y z w hx hy hz (.inl hnx) (hs.1 (.inl hnx))
        · by_cases hny : nanB y = true
          · exact costIs_nan b off c oc g og x y z w hx hy hz (.inr hny) (hs.1 (.inr hny))
          · have fx := fin_of hnx ix
            have fy := fin_of hny iy
            have hsat := hs.2 fx fy
            obtain ⟨s, hs0, h, _⟩ := add_fin x y fx fy
            unfold satF at hsat
            rw [hs0] at hsat
            simp only at hsat
            rcases h with h | ⟨h, h1, _⟩ | ⟨h, h1, _⟩
            · rw [(fin_not h).1] at hsat
              simp only [Bool.false_eq_true, if_false] at hsat
              subst hsat
              exact costIs_fin b off c oc g og x y z w hx hy hz hs0 h
            · rw [(inf_of_read h).1, h1] at hsat
              simp only [Bool.false_eq_true, if_false, if_true] at hsat
              subst hsat
              exact costIs_up b off c oc g og x y s w hx hy hz hs0 h
            · rw [(inf_of_read h).1, h1] at hsat
              simp only [if_true] at hsat
              subst hsat
              exact costIs_down b off c oc g og x y s w hx hy hz hs0 h

/-- Two figures that are one, a NaN compared by its class. -/
def SameF : Option Nat → Option Nat → Prop
  | none, none => True
  | some x, some y => (nanB x = true ∧ nanB y = true) ∨ (x = y ∧ nanB x = false)
  | _, _ => False

set_option maxHeartbeats 400000 in
theorem sameF_any (p q : Option Addr) (u v : Option Nat) (w : World) (hp : PtF w p u) (hq : PtF w q v) (hs : SameF u v) :
    Calls Try.prog 16 #[.pointer p, .pointer q] w fun e w' => e = .returned (.bool true) ∧ ∃ n, w' = w.drewN n := by
  rcases hp with ⟨rfl, rfl⟩ | ⟨b, off, x, rfl, rfl, hbx, hx⟩
  · rcases hq with ⟨rfl, rfl⟩ | ⟨c, oc, y, rfl, rfl, hby, hy⟩
    · clear hs
      go_enter Try.func16, Try.ntmps16
      go_wp2
      go_ret
      exact ⟨rfl, 0, rfl⟩
    · cases hs
  · rcases hq with ⟨rfl, rfl⟩ | ⟨c, oc, y, rfl, rfl, hby, hy⟩
    · cases hs
    · rcases hs with ⟨n1, n2⟩ | ⟨rfl, n1⟩
      · have d1 := ord_self_nan n1
        have d2 := ord_self_nan n2
        clear n1 n2 hbx hby
        go_enter Try.func16, Try.ntmps16
        go_wp2
        go_quiet (fail)
        go_wp2
        go_quiet (fail)
        go_wp2
        go_ret
        exact ⟨rfl, _, World.drewN_drewN ..⟩
      · have d1 := ord_self_not n1
        have d2 := ord_self_eq n1
        clear n1 hbx hby
        go_enter Try.func16, Try.ntmps16
        go_wp2
        go_quiet (fail)
        go_wp2
        go_quiet (fail)
        go_wp2
        go_ret
        exact ⟨rfl, _, World.drewN_drewN ..⟩
end Go.Proofs.Qxb6612270a
