/-
  THE CONTRACTS OVER float64 POINTERS: 'zzIsInf', 'zzCloneF', 'math.IsInf', 'infinite[float64]', 'largest[float64]', 'plus[float64]'.
-/
import Derived.Test.Qxb6612270aInts
import Derived.Test.Qxb6612270aNanCut
import Derived.Laws.FloatArith
import Derived.Laws.BitsAllLaws
namespace Go.Proofs.Qxb6612270a
open Go.RowKit Fl
set_option linter.unusedVariables false

theorem run_store_float (P : Program) (w : World) (a : Addr) (k : FloatKind) (n : Nat) (m : Mode) : (store a (.float k n) m).run P w = stored P w a (.float k n) m := run_store P w a _ m rfl
attribute [local go_sem] run_store_float

theorem call24 (x : Nat) (w : World) : (callFunc 24 #[.float .f64 x]).run Try.prog w = .ok (.value (.int .u64 (x : Int))) w := by kernel_rfl
theorem call23 (x : Int) (w : World) : (callFunc 23 #[.int .u64 x]).run Try.prog w = .ok (.value (.float .f64 x.toNat)) w := by kernel_rfl

theorem ret_float {a b : Nat} (h : a = b) : Ending.returned (.float .f64 a) = .returned (.float .f64 b) := by rw [h]
theorem ret_bool {a b : Bool} (h : a = b) : Ending.returned (.bool a) = .returned (.bool b) := by rw [h]

theorem abs_bits (x : Nat) (hx : x < 18446744073709551616) : (bits .andNot .u64 (x : Int) 9223372036854775808).toNat = absW x := by
  have h := u64_andNot_nat x 9223372036854775808 hx (by decide)
  have e : ((9223372036854775808 : Nat) : Int) = 9223372036854775808 := rfl
  rw [e] at h
  rw [h, Int.toNat_natCast]
  show x &&& 9223372036854775807 = x % 9223372036854775808
  exact Nat.and_two_pow_sub_one_eq_mod x 63

theorem isInf5 (x : Nat) (w : World) : Calls Try.prog 5 #[.float .f64 x] w fun e w' => e = .returned (.bool (infB x)) ∧ w' = w := by
  by_cases h1 : (FloatKind.f64.format.order x 9218868437227405311 == some Ordering.gt) = true
  · have h := inf_two x
    have HE : Hid (infB x = true) := by show _ = _; rw [← h]; exact Bool.or_eq_true _ _ ▸ .inl h1
    clear h
    go_enter Try.func5, Try.ntmps5
    go_wp2
    go_ret
    exact ⟨ret_bool HE.out.symm, rfl⟩
  · have h2 : (FloatKind.f64.format.order x 9218868437227405311 == some Ordering.gt) = false := by simpa using h1
    have HE : Hid (infB x = (FloatKind.f64.format.order x 18442240474082181119 == some Ordering.lt)) := by
      have h := inf_two x
      show _ = _
      rw [← h]
      show ((FloatKind.f64.format.order x 9218868437227405311 == some Ordering.gt) || (FloatKind.f64.format.order x 18442240474082181119 == some Ordering.lt)) = _
      rw [h2]; rfl
    clear h1
    go_enter Try.func5, Try.ntmps5
    go_wp2
    go_ret
    exact ⟨ret_bool (by rw [HE.out]), rfl⟩

theorem abs22 (x : Nat) (hx : x < 18446744073709551616) (w : World) : Calls Try.prog 22 #[.float .f64 x] w fun e w' => e = .returned (.float .f64 (absW x)) ∧ w' = w := by
  have HA : Hid ((bits .andNot .u64 (x : Int) 9223372036854775808).toNat = absW x) := abs_bits x hx
  have h1 := call24
  have h2 := call23
  clear hx
  go_enter Try.func22, Try.ntmps22
  go_wp2
  go_ret
  exact ⟨ret_float HA.out, rfl⟩

theorem isInf21 (x : Nat) (hx : x < 18446744073709551616) (w : World) : Calls Try.prog 21 #[.float .f64 x, .int .i64 0] w fun e w' => e = .returned (.bool (infB x)) ∧ w' = w := by
  have HX : Hid (x < 18446744073709551616) := hx
  have HI : Hid ((FloatKind.f64.format.order (absW x) 9218868437227405311 == some .gt) = infB x) := abs_gt x
  clear hx
  go_enter Try.func21, Try.ntmps21
  go_wp2_with (go_at_call 22; refine (abs22 x HX.out _).mono ?_; rintro e w' ⟨rfl, rfl⟩)
  go_ret
  exact ⟨ret_bool HI.out, rfl⟩

theorem assF_f (x : Nat) (w : World) : (Instr.typeAssert (.iface 25 (.float .f64 x)) 20 25 true).run Try.prog w = .ok (.tuple #[.float .f64 x, .bool true]) w := by kernel_rfl
theorem assPF_i (a : Addr) (w : World) : (Instr.typeAssert (.iface 23 (.pointer (some a))) 20 22 true).run Try.prog w = .ok (.tuple #[.pointer none, .bool false]) w := by kernel_rfl
theorem assPF_f (a : Addr) (w : World) : (Instr.typeAssert (.iface 23 (.pointer (some a))) 20 23 true).run Try.prog w = .ok (.tuple #[.pointer (some a), .bool true]) w := by kernel_rfl
theorem negMax : Op.unary .neg (.float .f64 9218868437227405311) = pure (.float .f64 18442240474082181119) := by kernel_rfl

theorem infF_any (x : Nat) (hx : x < 18446744073709551616) (w : World) : Calls Try.prog 19 #[.float .f64 x] w fun e w' => e = .returned (.bool (infB x)) ∧ w' = w := by
  have HX : Hid (x < 18446744073709551616) := hx
  clear hx
  have ha := assF_f
  go_enter Try.func19, Try.ntmps19
  go_wp2_with (go_at_call 21; refine (isInf21 x HX.out _).mono ?_; rintro e w' ⟨rfl, rfl⟩)
  go_ret
  exact ⟨rfl, rfl⟩

theorem largestF_any (w : World) : Calls Try.prog 20 #[] w fun e w' => e = .returned (.float .f64 9218868437227405311) ∧ Later w w' := by
  have ha := assPF_i
  have hb := assPF_f
  go_enter Try.func20, Try.ntmps20
  go_wp2
  go_ret
  exact ⟨rfl, (Below.refl _ _).alloc (Nat.le_refl _) _⟩

/-- A pointer to a float64. -/
def PtF (w : World) (p : Option Addr) (v : Option Nat) : Prop :=
  (p = none ∧ v = none) ∨ ∃ b off x, p = some ⟨b, off, none⟩ ∧ v = some x ∧ x < 18446744073709551616 ∧ w.cell? ⟨b, off, none⟩ = some (.float .f64 x)

theorem PtF.keep {w w' : World} {p : Option Addr} {v : Option Nat} (h : PtF w p v) (hl : Later w w') : PtF w' p v := by
  rcases h with h | ⟨b, off, x, rfl, rfl, hx, hc⟩
  · exact .inl h
  · exact .inr ⟨b, off, x, rfl, rfl, hx, (Below.cell hl (World.block_lt_of_cell? w _ hc)).trans hc⟩

set_option maxHeartbeats 400000 in
theorem cloneF_any (p : Option Addr) (v : Option Nat) (w : World) (h : PtF w p v) :
    Calls Try.prog 7 #[.pointer p] w fun e w' => ∃ q, e = .returned (.pointer q) ∧ PtF w' q v ∧ Later w w' := by
  rcases h with ⟨rfl, rfl⟩ | ⟨b, off, x, rfl, rfl, hx, hc⟩
  · go_enter Try.func7, Try.ntmps7
    go_wp2
    go_ret
    exact ⟨_, rfl, .inl ⟨rfl, rfl⟩, Later.refl _⟩
  · have HX : Hid (x < 18446744073709551616) := hx
    clear hx
    go_enter Try.func7, Try.ntmps7
    go_wp2
    go_ret
    exact ⟨_, rfl, .inr ⟨w.heap.size, 0, x, rfl, rfl, HX.out, by simp⟩, (Below.refl _ _).alloc (Nat.le_refl _) _⟩

theorem run_add_nan (x y : Nat) (h : Ieee.double.add x y = none) (W : World) :
    (binOp .add 25 (.float .f64 x) (.float .f64 y)).run Try.prog W = .ok (.float .f64 (Question.cut (.nanBits .f64 x y) (W.tape W.drawn (.nanBits .f64 x y)))) W.drew := by
  have h' : FloatKind.f64.format.add x y = none := h
  simp [binOp, Op.floatArith, h', Question.forced]

theorem infF_is (x : Nat) (b : Bool) (hx : x < 18446744073709551616) (h : infB x = b) (w : World) : Calls Try.prog 19 #[.float .f64 x] w fun e w' => e = .returned (.bool b) ∧ w' = w := by
  rw [← h]; exact infF_any x hx w

/-- the sum of two finite figures, held at the ends -/
def satF (x y : Nat) : Nat :=
  match Ieee.double.add x y with
  | some r => if infB r = true then (if ltz x = true then 18442240474082181119 else 9218868437227405311) else r
  | none => 0
/-- what 'plus' leaves of two figures: a NaN where one is a NaN; else the sum, held at the ends -/
def SumF (x y z : Nat) : Prop := (nanB x = true ∨ nanB y = true → nanB z = true) ∧ (finB x = true → finB y = true → z = satF x y)

theorem nan_not_fin {x : Nat} (h : nanB x = true) : finB x = false ∧ infB x = false := by
  rcases three x with ⟨_, b, c⟩ | ⟨a, _⟩ | ⟨a, _⟩
  · exact ⟨c, b⟩
  · rw [a] at h; cases h
  · rw [a] at h; cases h
theorem fin_of {x : Nat} (h : ¬ nanB x = true) (h2 : infB x = false) : finB x = true := by
  rcases three x with ⟨a, _⟩ | ⟨_, b, _⟩ | ⟨_, _, c⟩
  · exact absurd a h
  · rw [b] at h2; cases h2
  · exact c
theorem fin_not {x : Nat} (h : finB x = true) : infB x = false ∧ nanB x = false := by
  rcases three x with ⟨_, _, c⟩ | ⟨_, _, c⟩ | ⟨a, b, _⟩
  · rw [c] at h; cases h
  · rw [c] at h; cases h
  · exact ⟨b, a⟩
theorem inf_of_read {x : Nat} {s : Bool} (h : Ieee.double.read x = .infinity s) : infB x = true ∧ finB x = false := by simp [infB, finB, h]

theorem sumF_of {x y z : Nat} (fx : finB x = true) (fy : finB y = true) (h : z = satF x y) : SumF x y z := by
  refine ⟨fun h => ?_, fun _ _ => h⟩
  rcases h with h | h
  · rw [(fin_not fx).2] at h; cases h
  · rw [(fin_not fy).2] at h; cases h
theorem sumF_fin {x y z : Nat} (fx : finB x = true) (fy : finB y = true) (hz : Ieee.double.add x y = some z) (fz : finB z = true) : SumF x y z :=
  sumF_of fx fy (by simp [satF, hz, (fin_not fz).1])
theorem sumF_up {x y z : Nat} (fx : finB x = true) (fy : finB y = true) (hz : Ieee.double.add x y = some z) (fz : infB z = true) (e : ltz x = false) : SumF x y 9218868437227405311 :=
  sumF_of fx fy (by simp [satF, hz, fz, e])
theorem sumF_down {x y z : Nat} (fx : finB x = true) (fy : finB y = true) (hz : Ieee.double.add x y = some z) (fz : infB z = true) (e : ltz x = true) : SumF x y 18442240474082181119 :=
  sumF_of fx fy (by simp [satF, hz, fz, e])

theorem new_factsF {w W : World} {k : Value} {b off c oc : Nat} {x y : Value} {t : TypeId} (hW : W = (w.alloc (.cells #[k] t)).drew ∨ W = (w.alloc (.cells #[k] t)).drew.drew) (hx : w.cell? ⟨b, off, none⟩ = some x) (hy : w.cell? ⟨c, oc, none⟩ = some y) :
    W.cell? ⟨b, off, none⟩ = some x ∧ W.cell? ⟨c, oc, none⟩ = some y ∧ W.cell? ⟨w.heap.size, 0, none⟩ = some k ∧ W.frozen? ⟨w.heap.size, 0, none⟩ = false ∧ Later w W ∧ w.heap.size < W.heap.size := by
  rcases hW with rfl | rfl
  · exact new_facts rfl hx hy
  · have hl : Later w (w.alloc (.cells #[k] t)).drew.drew := ((Below.refl _ _).alloc (Nat.le_refl _) _).drew.drew
    exact ⟨(Below.cell hl (World.block_lt_of_cell? w _ hx)).trans hx, (Below.cell hl (World.block_lt_of_cell? w _ hy)).trans hy, by simp, by simp, hl, by simp⟩

set_option maxHeartbeats 2000000 in
theorem plusF_nan (b off c oc : Nat) (x y : Nat) (w : World) (hx : w.cell? ⟨b, off, none⟩ = some (.float .f64 x)) (hy : w.cell? ⟨c, oc, none⟩ = some (.float .f64 y)) (hn : nanB x = true ∨ nanB y = true) :
    Calls Try.prog 14 #[.pointer (some ⟨b, off, none⟩), .pointer (some ⟨c, oc, none⟩)] w fun e w' => ∃ q z, e = .returned (.pointer q) ∧ PtF w' q (some z) ∧ SumF x y z ∧ Later w w' := by
  have hbl : b < w.heap.size := World.block_lt_of_cell? w _ hx
  have hcl : c < w.heap.size := World.block_lt_of_cell? w _ hy
  have hadd := run_add_nan x y (hn.elim (add_nan_l x y) (add_nan_r x y))
  obtain ⟨z, hz0⟩ : ∃ z, z = Question.cut (.nanBits .f64 x y) (w.tape (w.drawn + 1) (.nanBits .f64 x y)) := ⟨_, rfl⟩
  have zn : nanB z = true := by rw [hz0]; exact cut_nan _ _ _
  have HZ : Hid (z < 18446744073709551616) := by show _ < _; rw [hz0]; exact cut_bound _ _ _
  have HI : Hid (infB z = false) := (nan_not_fin zn).2
  have HS : Hid (SumF x y z) := ⟨fun _ => zn, fun h1 h2 => by
    rcases hn with h | h
    · rw [(nan_not_fin h).1] at h1; cases h1
    · rw [(nan_not_fin h).1] at h2; cases h2⟩
  have d3 : (FloatKind.f64.format.order z 0 == some Ordering.lt) = false := nan_ltz z zn
  have HB : Hid (¬ (ltz x = true ∧ ltz y = true)) := by
    rintro ⟨h1, h2⟩
    rcases hn with h | h
    · rw [nan_ltz _ h] at h1; cases h1
    · rw [nan_ltz _ h] at h2; cases h2
  clear hn zn
  go_enter Try.func14, Try.ntmps14
  go_wp2
  go_region
  go_wp2
  obtain ⟨W, hW⟩ : ∃ W, W = (w.alloc (.cells #[.float .f64 (Question.cut (.nanBits .f64 x y) (w.tape (w.drawn + 1) (.nanBits .f64 x y)))] 25)).drew.drew := ⟨_, rfl⟩
  obtain ⟨cx, cy, cs, fs, hl, hz⟩ := new_factsF (.inr hW) hx hy
  rw [← hW]
  clear hW hx hy hadd
  rw [← hz0] at cs
  clear hz0
  cases e1 : (FloatKind.f64.format.order x 0 == some Ordering.lt)
  · cases e2 : (FloatKind.f64.format.order y 0 == some Ordering.lt)
    · have d1 : (FloatKind.f64.format.order x 0 == some Ordering.lt) = false := by assumption
      have d2 : (FloatKind.f64.format.order y 0 == some Ordering.lt) = false := by assumption
      go_quiet ((go_at_call 19; exact Calls.quiet_of_same (infF_is z false HZ.out HI.out _)))
      go_wp2
      go_ret
      exact ⟨_, z, rfl, .inr ⟨_, _, z, rfl, rfl, HZ.out, by simpa using cs⟩, HS.out, hl.drewN _⟩
    · have d1 : (FloatKind.f64.format.order x 0 == some Ordering.lt) = false := by assumption
      have d2 : (FloatKind.f64.format.order y 0 == some Ordering.lt) = true := by assumption
      go_quiet ((go_at_call 19; exact Calls.quiet_of_same (infF_is z false HZ.out HI.out _)))
      go_wp2
      go_ret
      exact ⟨_, z, rfl, .inr ⟨_, _, z, rfl, rfl, HZ.out, by simpa using cs⟩, HS.out, hl.drewN _⟩
  · cases e2 : (FloatKind.f64.format.order y 0 == some Ordering.lt)
    · have d1 : (FloatKind.f64.format.order x 0 == some Ordering.lt) = true := by assumption
      have d2 : (FloatKind.f64.format.order y 0 == some Ordering.lt) = false := by assumption
      go_quiet ((go_at_call 19; exact Calls.quiet_of_same (infF_is z false HZ.out HI.out _)))
      go_wp2
      go_ret
      exact ⟨_, z, rfl, .inr ⟨_, _, z, rfl, rfl, HZ.out, by simpa using cs⟩, HS.out, hl.drewN _⟩
    · exact absurd ⟨e1, e2⟩ HB.out

set_option maxHeartbeats 2000000 in
theorem plusF_fin (b off c oc : Nat) (x y : Nat) (w : World) (hx : w.cell? ⟨b, off, none⟩ = some (.float .f64 x)) (hy : w.cell? ⟨c, oc, none⟩ = some (.float .f64 y)) (z : Nat) (hz0 : Ieee.double.add x y = some z) (fx : finB x = true) (fy : finB y = true) (fz : finB z = true) (hT : ltz x = true → ltz y = true → ltz z = true) (hF : ltz x = false → ltz y = false → ltz z = false) :
    Calls Try.prog 14 #[.pointer (some ⟨b, off, none⟩), .pointer (some ⟨c, oc, none⟩)] w fun e w' => ∃ q z, e = .returned (.pointer q) ∧ PtF w' q (some z) ∧ SumF x y z ∧ Later w w' := by
  have hbl : b < w.heap.size := World.block_lt_of_cell? w _ hx
  have hcl : c < w.heap.size := World.block_lt_of_cell? w _ hy
  have hadd := fun W => run_float_arith (P := Try.prog) W .add 25 .f64 x y z hz0
  have HZ : Hid (z < 18446744073709551616) := by
    have := Ieee.double.add_lt hz0
    exact this
  have HI : Hid (infB z = false) := (fin_not fz).1
  have HS : Hid (SumF x y z) := sumF_fin fx fy hz0 fz
  have HT : Hid (ltz x = true → ltz y = true → ltz z = true) := hT
  have HF : Hid (ltz x = false → ltz y = false → ltz z = false) := hF
  clear hz0 fx fy fz hT hF
  go_enter Try.func14, Try.ntmps14
  go_wp2
  go_region
  go_wp2
  obtain ⟨W, hW⟩ : ∃ W, W = (w.alloc (.cells #[.float .f64 z] 25)).drew := ⟨_, rfl⟩
  obtain ⟨cx, cy, cs, fs, hl, hz⟩ := new_factsF (.inl hW) hx hy
  rw [← hW]
  clear hW hx hy hadd
  cases e1 : (FloatKind.f64.format.order x 0 == some Ordering.lt)
  · cases e2 : (FloatKind.f64.format.order y 0 == some Ordering.lt)
    · have d3 : (FloatKind.f64.format.order z 0 == some Ordering.lt) = false := HF.out e1 e2
      have d1 : (FloatKind.f64.format.order x 0 == some Ordering.lt) = false := by assumption
      have d2 : (FloatKind.f64.format.order y 0 == some Ordering.lt) = false := by assumption
      go_quiet ((go_at_call 19; exact Calls.quiet_of_same (infF_is z false HZ.out HI.out _)))
      go_wp2
      go_ret
      exact ⟨_, z, rfl, .inr ⟨_, _, z, rfl, rfl, HZ.out, by simpa using cs⟩, HS.out, hl.drewN _⟩
    · have d1 : (FloatKind.f64.format.order x 0 == some Ordering.lt) = false := by assumption
      have d2 : (FloatKind.f64.format.order y 0 == some Ordering.lt) = true := by assumption
      go_quiet ((go_at_call 19; exact Calls.quiet_of_same (infF_is z false HZ.out HI.out _)))
      go_wp2
      go_ret
      exact ⟨_, z, rfl, .inr ⟨_, _, z, rfl, rfl, HZ.out, by simpa using cs⟩, HS.out, hl.drewN _⟩
  · cases e2 : (FloatKind.f64.format.order y 0 == some Ordering.lt)
    · have d1 : (FloatKind.f64.format.order x 0 == some Ordering.lt) = true := by assumption
      have d2 : (FloatKind.f64.format.order y 0 == some Ordering.lt) = false := by assumption
      go_quiet ((go_at_call 19; exact Calls.quiet_of_same (infF_is z false HZ.out HI.out _)))
      go_wp2
      go_ret
      exact ⟨_, z, rfl, .inr ⟨_, _, z, rfl, rfl, HZ.out, by simpa using cs⟩, HS.out, hl.drewN _⟩
    · have d3 : (FloatKind.f64.format.order z 0 == some Ordering.lt) = true := HT.out e1 e2
      have d1 : (FloatKind.f64.format.order x 0 == some Ordering.lt) = true := by assumption
      have d2 : (FloatKind.f64.format.order y 0 == some Ordering.lt) = true := by assumption
      go_quiet ((go_at_call 19; exact Calls.quiet_of_same (infF_is z false HZ.out HI.out _)))
      go_wp2
      go_ret
      exact ⟨_, z, rfl, .inr ⟨_, _, z, rfl, rfl, HZ.out, by simpa using cs⟩, HS.out, hl.drewN _⟩

set_option maxHeartbeats 2000000 in
theorem plusF_up (b off c oc : Nat) (x y : Nat) (w : World) (hx : w.cell? ⟨b, off, none⟩ = some (.float .f64 x)) (hy : w.cell? ⟨c, oc, none⟩ = some (.float .f64 y)) (z : Nat) (hz0 : Ieee.double.add x y = some z) (fx : finB x = true) (fy : finB y = true) (fz : infB z = true) (e1 : ltz x = false) (e2 : ltz y = false) :
    Calls Try.prog 14 #[.pointer (some ⟨b, off, none⟩), .pointer (some ⟨c, oc, none⟩)] w fun e w' => ∃ q z, e = .returned (.pointer q) ∧ PtF w' q (some z) ∧ SumF x y z ∧ Later w w' := by
  have hbl : b < w.heap.size := World.block_lt_of_cell? w _ hx
  have hcl : c < w.heap.size := World.block_lt_of_cell? w _ hy
  have hadd := fun W => run_float_arith (P := Try.prog) W .add 25 .f64 x y z hz0
  have hng := negMax
  have HZ : Hid (z < 18446744073709551616) := by
    have := Ieee.double.add_lt hz0
    exact this
  have HI : Hid (infB z = true) := fz
  have HS : Hid (SumF x y 9218868437227405311) := sumF_up fx fy hz0 fz e1
  have e1' : (FloatKind.f64.format.order x 0 == some Ordering.lt) = false := e1
  have e2' : (FloatKind.f64.format.order y 0 == some Ordering.lt) = false := e2
  clear hz0 fx fy fz e1 e2
  go_enter Try.func14, Try.ntmps14
  go_wp2
  go_region
  go_wp2
  obtain ⟨W, hW⟩ : ∃ W, W = (w.alloc (.cells #[.float .f64 z] 25)).drew := ⟨_, rfl⟩
  obtain ⟨cx, cy, cs, fs, hl, hz⟩ := new_factsF (.inl hW) hx hy
  rw [← hW]
  clear hW hx hy hadd
  have d1 : (FloatKind.f64.format.order x 0 == some Ordering.lt) = false := by assumption
  have d2 : (FloatKind.f64.format.order y 0 == some Ordering.lt) = false := by assumption
  go_quiet ((go_at_call 19; exact Calls.quiet_of_same (infF_is z true HZ.out HI.out _)))
  go_wp2_with (go_at_call 20; refine (largestF_any _).mono ?_; rintro e w2 ⟨rfl, hl2⟩; have k1 := hl2.cell (show (W.drewN _).cell? _ = _ from cx); have k2 := hl2.cell (show (W.drewN _).cell? _ = _ from cs); have k3 := hl2.frozen (show (W.drewN _).cell? _ = _ from cs) fs; have hl3 := (hl.drewN _).trans hl2)
  go_ret
  refine ⟨_, 9218868437227405311, rfl, .inr ⟨_, _, 9218868437227405311, rfl, rfl, by omega, ?_⟩, HS.out, ?_⟩
  · first | exact World.cell?_setCell_same _ _ _ k2 | exact World.cell?_setCell_same _ _ _ (World.cell?_setCell_same _ _ _ k2)
  · first | exact hl3.setNew _ | exact (hl3.setNew _).setNew _

set_option maxHeartbeats 2000000 in
theorem plusF_down (b off c oc : Nat) (x y : Nat) (w : World) (hx : w.cell? ⟨b, off, none⟩ = some (.float .f64 x)) (hy : w.cell? ⟨c, oc, none⟩ = some (.float .f64 y)) (z : Nat) (hz0 : Ieee.double.add x y = some z) (fx : finB x = true) (fy : finB y = true) (fz : infB z = true) (e1 : ltz x = true) (e2 : ltz y = true) :
    Calls Try.prog 14 #[.pointer (some ⟨b, off, none⟩), .pointer (some ⟨c, oc, none⟩)] w fun e w' => ∃ q z, e = .returned (.pointer q) ∧ PtF w' q (some z) ∧ SumF x y z ∧ Later w w' := by
  have hbl : b < w.heap.size := World.block_lt_of_cell? w _ hx
  have hcl : c < w.heap.size := World.block_lt_of_cell? w _ hy
  have hadd := fun W => run_float_arith (P := Try.prog) W .add 25 .f64 x y z hz0
  have hng := negMax
  have HZ : Hid (z < 18446744073709551616) := by
    have := Ieee.double.add_lt hz0
    exact this
  have HI : Hid (infB z = true) := fz
  have HS : Hid (SumF x y 18442240474082181119) := sumF_down fx fy hz0 fz e1
  have e1' : (FloatKind.f64.format.order x 0 == some Ordering.lt) = true := e1
  have e2' : (FloatKind.f64.format.order y 0 == some Ordering.lt) = true := e2
  clear hz0 fx fy fz e1 e2
  go_enter Try.func14, Try.ntmps14
  go_wp2
  go_region
  go_wp2
  obtain ⟨W, hW⟩ : ∃ W, W = (w.alloc (.cells #[.float .f64 z] 25)).drew := ⟨_, rfl⟩
  obtain ⟨cx, cy, cs, fs, hl, hz⟩ := new_factsF (.inl hW) hx hy
  rw [← hW]
  clear hW hx hy hadd
  have d1 : (FloatKind.f64.format.order x 0 == some Ordering.lt) = true := by assumption
  have d2 : (FloatKind.f64.format.order y 0 == some Ordering.lt) = true := by assumption
  go_quiet ((go_at_call 19; exact Calls.quiet_of_same (infF_is z true HZ.out HI.out _)))
  go_wp2_with (go_at_call 20; refine (largestF_any _).mono ?_; rintro e w2 ⟨rfl, hl2⟩; have k1 := hl2.cell (show (W.drewN _).cell? _ = _ from cx); have k2 := hl2.cell (show (W.drewN _).cell? _ = _ from cs); have k3 := hl2.frozen (show (W.drewN _).cell? _ = _ from cs) fs; have hl3 := (hl.drewN _).trans hl2)
  go_ret
  refine ⟨_, 18442240474082181119, rfl, .inr ⟨_, _, 18442240474082181119, rfl, rfl, by omega, ?_⟩, HS.out, ?_⟩
  · first | exact World.cell?_setCell_same _ _ _ k2 | exact World.cell?_setCell_same _ _ _ (World.cell?_setCell_same _ _ _ k2)
  · first | exact hl3.setNew _ | exact (hl3.setNew _).setNew _

theorem plusF_both (b off c oc : Nat) (x y : Nat) (w : World) (hx : w.cell? ⟨b, off, none⟩ = some (.float .f64 x)) (hy : w.cell? ⟨c, oc, none⟩ = some (.float .f64 y)) (ix : infB x = false) (iy : infB y = false) :
    Calls Try.prog 14 #[.pointer (some ⟨b, off, none⟩), .pointer (some ⟨c, oc, none⟩)] w fun e w' => ∃ q z, e = .returned (.pointer q) ∧ PtF w' q (some z) ∧ SumF x y z ∧ Later w w' := by
  by_cases hnx : nanB x = true
  · exact plusF_nan b off c oc x y w hx hy (.inl hnx)
  · by_cases hny : nanB y = true
    · exact plusF_nan b off c oc x y w hx hy (.inr hny)
    · have fx := fin_of hnx ix
      have fy := fin_of hny iy
      obtain ⟨z, hz, h, hT, hF⟩ := add_fin x y fx fy
      rcases h with h | ⟨h, h1, h2⟩ | ⟨h, h1, h2⟩
      · exact plusF_fin b off c oc x y w hx hy z hz fx fy h hT hF
      · exact plusF_up b off c oc x y w hx hy z hz fx fy (inf_of_read h).1 h1 h2
      · exact plusF_down b off c oc x y w hx hy z hz fx fy (inf_of_read h).1 h1 h2

/-- what 'plus' leaves of two figures that may be missing -/
def RelF (u v r : Option Nat) : Prop :=
  match u, v with
  | none, v => r = v
  | some x, none => r = some x
  | some x, some y => ∃ z, r = some z ∧ SumF x y z

def NoInf (u v : Option Nat) : Prop := ∀ x y, u = some x → v = some y → infB x = false ∧ infB y = false

theorem plusF_any (p q : Option Addr) (u v : Option Nat) (w : World) (hp : PtF w p u) (hq : PtF w q v) (hi : NoInf u v) :
    Calls Try.prog 14 #[.pointer p, .pointer q] w fun e w' => ∃ r z, e = .returned (.pointer r) ∧ PtF w' r z ∧ RelF u v z ∧ Later w w' := by
  rcases hp with ⟨rfl, rfl⟩ | ⟨b, off, x, rfl, rfl, hbx, hx⟩
  · have HQ : Hid (PtF w q v) := hq
    clear hq hi
    go_enter Try.func14, Try.ntmps14
    go_wp2
    go_ret
    exact ⟨_, v, rfl, HQ.out, rfl, Later.refl _⟩
  · rcases hq with ⟨rfl, rfl⟩ | ⟨c, oc, y, rfl, rfl, hby, hy⟩
    · have HQ : Hid (PtF w (some ⟨b, off, none⟩) (some x)) := .inr ⟨b, off, x, rfl, rfl, hbx, hx⟩
      clear hbx hi
      go_enter Try.func14, Try.ntmps14
      go_wp2
      go_ret
      exact ⟨_, some x, rfl, HQ.out, rfl, Later.refl _⟩
    · obtain ⟨ix, iy⟩ := hi x y rfl rfl
      refine (plusF_both b off c oc x y w hx hy ix iy).mono ?_
      rintro e w' ⟨r, z, rfl, h1, h2, h3⟩
      exact ⟨r, some z, rfl, h1, ⟨z, rfl, h2⟩, h3⟩
end Go.Proofs.Qxb6612270a
