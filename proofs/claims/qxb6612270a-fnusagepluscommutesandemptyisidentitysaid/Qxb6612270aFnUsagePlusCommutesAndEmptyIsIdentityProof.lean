/-
  'Rows.FnUsagePlusCommutesAndEmptyIsIdentitySaid': the row over the walk.
-/
import Derived.Test.Qxb6612270aRows
import Derived.Test.Qxb6612270aWalkF
import Derived.WalkKit
import Derived.ProofKit
import Derived.OpenShut
import Derived.ShutString
import Derived.ChangeOld
import Derived.Below
namespace Go.Proofs.Qxb6612270a.fnUsagePlusCommutesAndEmptyIsIdentity
open Go.ChangeShapes Go.WideShapes Go.ChangeAt Go.RowKit
set_option linter.unusedVariables false

theorem own : ownKnob Try.prog.godebug = none := by kernel_rfl
theorem laidOut : laidOutB Try.prog = true := by kernel_rfl

section
variable {H : Type} {enc : TypeId × Value → H} {W : World} {spare : Nat → Bool} {held : Bool}
theorem open_i {base b0 : Nat} {v : Value} {d : DataW H} {ps : List MemPlace} (hval : Value.okWide Try.prog W .any b0 22 v) (hd : DataW.Trod enc Try.prog W base spare held 22 v d ps) :
    ∃ p x, v = .pointer p ∧ PtI W p x ∧ InR x := by
  rcases open_ptr_int Try.underlying22 Try.underlying2 (by kernel_rfl) hval hd with ⟨rfl, _, _⟩ | ⟨b, off, n, rfl, _, _, hc, hw⟩
  · exact ⟨none, none, rfl, .inl ⟨rfl, rfl⟩, fun x h => by cases h⟩
  · refine ⟨_, some n, rfl, .inr ⟨b, off, n, rfl, rfl, hc⟩, fun x h => ?_⟩
    cases h
    exact bounds_i64 hw

theorem trod_f64 {base fuel : Nat} {cs : List Value} {x : DataW H × List MemPlace} (h : DataW.trod enc Try.prog W base spare held fuel 25 cs = some x) : ∃ n, cs = [.float .f64 n] ∧ (Lit.float .f64 n).wf = true := by
  cases fuel with
  | zero => simp [DataW.trod] at h
  | succ n =>
    unfold DataW.trod at h
    rw [Try.underlying25] at h
    split at h <;> simp_all

theorem open_f {base b0 : Nat} {v : Value} {d : DataW H} {ps : List MemPlace} (hval : Value.okWide Try.prog W .any b0 23 v) (hd : DataW.Trod enc Try.prog W base spare held 23 v d ps) :
    ∃ p x, v = .pointer p ∧ PtF W p x := by
  have h1 : Try.prog.cellsOf 25 = 1 := by kernel_rfl
  rcases open_ptr Try.underlying23 (by rw [h1]; omega) hval hd with ⟨rfl, _, _⟩ | ⟨b, off, cs, y, fuel, rfl, _, _, hlen, hcell, hy⟩
  · exact ⟨none, none, rfl, .inl ⟨rfl, rfl⟩⟩
  · have hc := hcell 0 (by omega)
    have hl : cs.length = 1 := by rw [hlen, h1]
    obtain ⟨c, rfl⟩ : ∃ c, cs = [c] := by
      match cs, hl with
      | [c], _ => exact ⟨c, rfl⟩
    have hf : ∃ n, c = .float .f64 n ∧ n < 18446744073709551616 := by
      obtain ⟨n, e, hw⟩ := trod_f64 hy
      simp only [List.cons.injEq, and_true] at e
      exact ⟨n, e, by simpa [Lit.wf] using hw⟩
    obtain ⟨n, rfl, hn⟩ := hf
    exact ⟨_, some n, rfl, .inr ⟨b, off, n, rfl, rfl, hn, by simpa using hc⟩⟩
end

/-! ### THE ROW's STEP -/
set_option maxRecDepth 100000 in
theorem lifted (os : Os) (started : os.Started) (H : Type) (enc : TypeId × Value → H) :
    ReturnsInHanded {} Try.checked os 4 .any (Rows.fnUsagePlusCommutesAndEmptyIsIdentitySpec.pre6 enc Try.prog Try.f4 Rows.fnUsagePlusCommutesAndEmptyIsIdentityRow.domain false) (Rows.fnUsagePlusCommutesAndEmptyIsIdentitySpec.post enc Try.prog Try.f4 false true false false) := by
  refine returnsInHanded_of_change (C := Try.checked) own started (by kernel_rfl) Try.func4
    (ChangeSpec.witness6 (enc := enc) (C := Try.checked) false ⟨#[], #[.pointer none, .pointer none, .pointer none, .pointer none, .pointer none, .pointer none, .pointer none, .pointer none], []⟩ 8 (by kernel_rfl) (by kernel_rfl) (by kernel_rfl) (by kernel_rfl)) ?_
  intro W base args ds gs before hval0 hW hcnd _
  have hval : ∀ (j : Nat) t v, Try.f4.params[j]? = some t → args[j]? = some v → Value.okWide Try.prog W .any base t v := hval0
  have hW' := hW
  obtain ⟨p, q, hA0, hV, rfl, hfz, hnd⟩ := hW
  have hA : DataW.TrodAll enc Try.prog W 0 (fun _ => true) true Try.f4.params.toList args.toList ds p := hA0
  rw [Try.params4] at hA hval
  obtain ⟨v0, vs0, d0, ds0, p0, q0, hargs, rfl, rfl, h0, r0⟩ := trodAll_cons hA
  obtain ⟨v1, vs1, d1, ds1, p1, q1, rfl, rfl, rfl, h1, r1⟩ := trodAll_cons r0
  obtain ⟨v2, vs2, d2, ds2, p2, q2, rfl, rfl, rfl, h2, r2⟩ := trodAll_cons r1
  obtain ⟨v3, vs3, d3, ds3, p3, q3, rfl, rfl, rfl, h3, r3⟩ := trodAll_cons r2
  obtain ⟨v4, vs4, d4, ds4, p4, q4, rfl, rfl, rfl, h4, r4⟩ := trodAll_cons r3
  obtain ⟨v5, vs5, d5, ds5, p5, q5, rfl, rfl, rfl, h5, r5⟩ := trodAll_cons r4
  obtain ⟨v6, vs6, d6, ds6, p6, q6, rfl, rfl, rfl, h6, r6⟩ := trodAll_cons r5
  obtain ⟨v7, vs7, d7, ds7, p7, q7, rfl, rfl, rfl, h7, r7⟩ := trodAll_cons r6
  obtain ⟨rfl, rfl, rfl⟩ := trodAll_nil r7
  obtain rfl : args = #[v0, v1, v2, v3, v4, v5, v6, v7] := by cases args; simp_all
  obtain ⟨rfl, rfl⟩ := trodVars_none hV
  obtain ⟨a0, x0, e0, t0, i0⟩ := open_i (hval 0 22 v0 rfl rfl) h0
  obtain ⟨a1, x1, e1, t1, i1⟩ := open_i (hval 1 22 v1 rfl rfl) h1
  obtain ⟨a2, x2, e2, t2, i2⟩ := open_i (hval 2 22 v2 rfl rfl) h2
  obtain ⟨a3, x3, e3, t3⟩ := open_f (hval 3 23 v3 rfl rfl) h3
  obtain ⟨a4, x4, e4, t4, i4⟩ := open_i (hval 4 22 v4 rfl rfl) h4
  obtain ⟨a5, x5, e5, t5, i5⟩ := open_i (hval 5 22 v5 rfl rfl) h5
  obtain ⟨a6, x6, e6, t6, i6⟩ := open_i (hval 6 22 v6 rfl rfl) h6
  obtain ⟨a7, x7, e7, t7⟩ := open_f (hval 7 23 v7 rfl rfl) h7
  have lt0 : ∀ x ∈ p0, x.block < W.heap.size := by obtain ⟨m, hm⟩ := h0; exact DataW.trod_lt m _ _ _ hm
  have lt1 : ∀ x ∈ p1, x.block < W.heap.size := by obtain ⟨m, hm⟩ := h1; exact DataW.trod_lt m _ _ _ hm
  have lt2 : ∀ x ∈ p2, x.block < W.heap.size := by obtain ⟨m, hm⟩ := h2; exact DataW.trod_lt m _ _ _ hm
  have lt3 : ∀ x ∈ p3, x.block < W.heap.size := by obtain ⟨m, hm⟩ := h3; exact DataW.trod_lt m _ _ _ hm
  have lt4 : ∀ x ∈ p4, x.block < W.heap.size := by obtain ⟨m, hm⟩ := h4; exact DataW.trod_lt m _ _ _ hm
  have lt5 : ∀ x ∈ p5, x.block < W.heap.size := by obtain ⟨m, hm⟩ := h5; exact DataW.trod_lt m _ _ _ hm
  have lt6 : ∀ x ∈ p6, x.block < W.heap.size := by obtain ⟨m, hm⟩ := h6; exact DataW.trod_lt m _ _ _ hm
  have lt7 : ∀ x ∈ p7, x.block < W.heap.size := by obtain ⟨m, hm⟩ := h7; exact DataW.trod_lt m _ _ _ hm
  subst e0 e1 e2 e3 e4 e5 e6 e7
  clear hA0 hval0
  refine (lawF_any a0 a1 a2 a3 a4 a5 a6 a7 x0 x1 x2 x4 x5 x6 x3 x7 W t0 t1 t2 t3 t4 t5 t6 t7 ).mono fun e W' ⟨he, bel⟩ => ?_
  subst he
  have bel' : Below W.heap.size W W' := bel
  exact ⟨_, rfl, _, _, _, [], _, [], hW', trodAll_mk1 (shut_bool Try.underlying4 _), (trodAll_cons_mk (Below.trod laidOut (by kernel_rfl) (of_decide_eq_true (by kernel_rfl)) h0 bel' lt0) (trodAll_cons_mk (Below.trod laidOut (by kernel_rfl) (of_decide_eq_true (by kernel_rfl)) h1 bel' lt1) (trodAll_cons_mk (Below.trod laidOut (by kernel_rfl) (of_decide_eq_true (by kernel_rfl)) h2 bel' lt2) (trodAll_cons_mk (Below.trod laidOut (by kernel_rfl) (of_decide_eq_true (by kernel_rfl)) h3 bel' lt3) (trodAll_cons_mk (Below.trod laidOut (by kernel_rfl) (of_decide_eq_true (by kernel_rfl)) h4 bel' lt4) (trodAll_cons_mk (Below.trod laidOut (by kernel_rfl) (of_decide_eq_true (by kernel_rfl)) h5 bel' lt5) (trodAll_cons_mk (Below.trod laidOut (by kernel_rfl) (of_decide_eq_true (by kernel_rfl)) h6 bel' lt6) (trodAll_cons_mk (Below.trod laidOut (by kernel_rfl) (of_decide_eq_true (by kernel_rfl)) h7 bel' lt7) trodAll_mk0)))))))), rfl, bel'.frame _, fun h => by cases h⟩

theorem over : Rows.fnUsagePlusCommutesAndEmptyIsIdentityRow.holds Try.pinned (OpenSpec.ofChange Rows.fnUsagePlusCommutesAndEmptyIsIdentitySpec) :=
  OpenClaim.holds_of_wide 4 Try.f4 rfl rfl rfl rfl rfl rfl rfl ⟨rfl, rfl, rfl, rfl, rfl⟩ rfl rfl rfl rfl rfl (by kernel_rfl) Try.func4 (by kernel_rfl)
    (of_decide_eq_true (by kernel_rfl)) (by unfold Func.isWrapper; first | (rw [if_pos (by decide +kernel)]; kernel_rfl) | (rw [if_neg (by decide +kernel)]; exact ⟨rfl, rfl⟩))
    (fun os started H enc _ => lifted os started H enc)

/-- ████ THE STATEMENT ████ -/
theorem proved : Rows.FnUsagePlusCommutesAndEmptyIsIdentitySaid := over
#print axioms proved
end Go.Proofs.Qxb6612270a.fnUsagePlusCommutesAndEmptyIsIdentity
