/-
  'Rows.FnTakeKeepsWindowOfLatestSaid': the row over the walk.
-/
import Derived.Test.Qxb6612353aRows
import Derived.Test.Qxb6612353aTakeAll
import Derived.WalkKit
import Derived.ProofKit
import Derived.OpenShut
import Derived.ShutString
import Derived.ChangeOld
import Derived.Below
import Derived.Deep.Slices
import Derived.Deep.Strs
import Derived.Lib.SmallJoins
namespace Go.Proofs.Qxb6612353a.fnTakeKeepsWindowOfLatest
open Go.ChangeShapes Go.WideShapes Go.ChangeAt Go.RowKit
set_option linter.unusedVariables false

theorem own : ownKnob Try.prog.godebug = none := by kernel_rfl
theorem laidOut : laidOutB Try.prog = true := by kernel_rfl

section
variable {H : Type} {enc : TypeId × Value → H} {W : World} {spare : Nat → Bool} {held : Bool}
theorem open_n2 {base b0 : Nat} {v : Value} {d : DataW H} {ps : List MemPlace} (hval : Value.okWide Try.prog W .any b0 2 v) (hd : DataW.Trod enc Try.prog W base spare held 2 v d ps) : ∃ n, v = .int .i64 n ∧ n ≤ 9223372036854775807 := by
  obtain ⟨n, rfl, _, _, hw⟩ := open_int Try.underlying2 hval hd
  exact ⟨n, rfl, (bounds_i64 hw).2⟩
theorem open_n3 {base b0 : Nat} {v : Value} {d : DataW H} {ps : List MemPlace} (hval : Value.okWide Try.prog W .any b0 3 v) (hd : DataW.Trod enc Try.prog W base spare held 3 v d ps) : ∃ n, v = .int .i64 n := by
  obtain ⟨n, rfl, _, _, hw⟩ := open_int Try.underlying3 hval hd
  exact ⟨n, rfl⟩

/-- the three cells of an outcome -/
theorem three {base fuel : Nat} {cs : List Value} {x : DataW H × List MemPlace} (h : DataW.trod enc Try.prog W base spare held fuel 25 cs = some x) : ∃ s t l, cs = [.int .i64 s, .bool t, .int .i64 l] := by
  obtain ⟨y0, y1, y2, n, _, hl, h0, h1, h2⟩ := Deep.trod_struct3 Try.underlying25 h
  have c25 : Try.prog.cellsOf 25 = 3 := by kernel_rfl
  have c3 : Try.prog.cellsOf 3 = 1 := by kernel_rfl
  have c4 : Try.prog.cellsOf 4 = 1 := by kernel_rfl
  have c2 : Try.prog.cellsOf 2 = 1 := by kernel_rfl
  rw [c25] at hl
  simp only at h0 h1 h2
  rw [c3] at h0
  rw [c4] at h1
  rw [c2] at h2
  match cs, hl with
  | [a, b, c], _ =>
    obtain ⟨s, e0, _⟩ := DataW.trod_int Try.underlying3 h0
    obtain ⟨t, e1, _⟩ := DataW.trod_bool Try.underlying4 h1
    obtain ⟨l, e2, _⟩ := DataW.trod_int Try.underlying2 h2
    simp at e0 e1 e2
    exact ⟨s, t, l, by rw [e0, e1, e2]⟩

theorem open_o {base b0 : Nat} {v : Value} {d : DataW H} {ps : List MemPlace} (hval : Value.okWide Try.prog W .any b0 25 v) (hd : DataW.Trod enc Try.prog W base spare held 25 v d ps) : ∃ s t l, v = .agg #[.int .i64 s, .bool t, .int .i64 l] := by
  obtain ⟨cs, rfl, hsz⟩ := okWide_struct Try.underlying25 hval
  obtain ⟨fuel, hf⟩ := hd
  obtain ⟨s, t, l, e⟩ := three hf
  refine ⟨s, t, l, ?_⟩
  simp only [Value.cells] at e
  rw [show cs = #[.int .i64 s, .bool t, .int .i64 l] from by apply Array.toList_inj.1; exact e]

theorem open_outs {base b0 : Nat} {v : Value} {d : DataW H} {ps : List MemPlace} (hval : Value.okWide Try.prog W .any b0 22 v) (hd : DataW.Trod enc Try.prog W base spare held 22 v d ps) :
    ∃ a n c rs, v = .slice a n c ∧ n ≤ 9223372036854775807 ∧ SlO W a n rs ∧ (a = none → c = 0) := by
  obtain ⟨a0, n0, c0, rfl⟩ := okWide_slice Try.underlying22 hval
  obtain ⟨fuel, hf⟩ := hd
  have c25 : Try.prog.cellsOf 25 = 3 := by kernel_rfl
  rcases Deep.open_slice Try.underlying22 hf with ⟨hcs, _⟩ | ⟨x, len, cap, m, k, D, Pl, hcs, hb, hl, hm, hmm, _, hx⟩
  · simp [Value.cells] at hcs
    obtain ⟨rfl, rfl, rfl⟩ := hcs
    exact ⟨none, 0, 0, [], rfl, by omega, ⟨rfl, .inl rfl⟩, fun _ => rfl⟩
  · simp [Value.cells] at hcs
    obtain ⟨rfl, rfl, rfl⟩ := hcs
    have hlm : n0 ≤ m := by rw [hmm]; split <;> omega
    by_cases hz : n0 = 0
    · exact ⟨some x, n0, c0, [], rfl, by omega, ⟨by simp [hz], .inl hz⟩, fun h => by cases h⟩
    obtain ⟨b, off, spot⟩ := x
    have hs : spot = none := by
      obtain ⟨cs', h1, h2⟩ := hx 0 (by omega)
      rw [c25] at h1
      obtain ⟨_, hlen, hcell⟩ := World.cells?_some h1
      obtain ⟨s, t, l, rfl⟩ := three h2
      have k0 := hcell 0 (by omega)
      simp only [Nat.zero_mul] at k0
      simpa [Addr.add] using World.cell?_spot k0
    subst hs
    have each : ∀ i, i < n0 → ∃ o : O, Out3 W b (off + i * 3) o := by
      intro i hi
      obtain ⟨cs', h1, h2⟩ := hx i (by omega)
      rw [c25] at h1
      obtain ⟨_, hlen, hcell⟩ := World.cells?_some h1
      obtain ⟨s, t, l, rfl⟩ := three h2
      have k0 := hcell 0 (by omega)
      have k1 := hcell 1 (by omega)
      have k2 := hcell 2 (by omega)
      rw [Addr.add_lit, Addr.add_lit] at k0 k1 k2
      exact ⟨(s, t, l), by simpa using k0, by simpa using k1, by simpa using k2⟩
    refine ⟨some ⟨b, off, none⟩, n0, c0, (List.range n0).map (fun i => if h : i < n0 then (each i h).choose else o0), rfl, by unfold maxLen at hm; omega, ⟨by simp, .inr ⟨b, off, rfl, ?_, fun j hj => ?_⟩⟩, fun h => by cases h⟩
    · obtain ⟨o, h0, _⟩ := each 0 (by omega)
      exact World.block_lt_of_cell? W _ h0
    · have e : ((List.range n0).map (fun i => if h : i < n0 then (each i h).choose else o0)).getD j o0 = (each j hj).choose := by
        simp [List.getD, hj]
      rw [e]
      exact (each j hj).choose_spec

theorem open_row {base b0 : Nat} {v : Value} {d : DataW H} {ps : List MemPlace} (hval : Value.okWide Try.prog W .any b0 23 v) (hd : DataW.Trod enc Try.prog W base (fun _ => true) held 23 v d ps) :
    ∃ a n c zs, v = .slice a n c ∧ RowAt W a n c zs := by
  obtain ⟨a0, len0, cap0, rfl⟩ := okWide_slice Try.underlying23 hval
  obtain ⟨fuel, hf⟩ := hd
  rcases open_ints Try.underlying23 Try.underlying2 (by kernel_rfl) hf with ⟨hcs, _⟩ | ⟨x, l, c, zs, hcs, _, hl, hm, hz, _, hcell, hwz⟩
  · simp [Value.cells] at hcs
    obtain ⟨rfl, rfl, rfl⟩ := hcs
    exact ⟨none, 0, 0, [], rfl, .inl ⟨rfl, rfl, rfl, rfl⟩⟩
  · simp [Value.cells] at hcs
    obtain ⟨rfl, rfl, rfl⟩ := hcs
    exact ⟨some x, len0, cap0, zs, rfl, .inr ⟨x, rfl, hl, hm, by simpa using hz, hcell⟩⟩
end

/-! ### THE ROW's STEP -/
set_option maxRecDepth 100000 in
theorem lifted (os : Os) (started : os.Started) (H : Type) (enc : TypeId × Value → H) :
    ReturnsInHanded {} Try.checked os 3 .any (Rows.fnTakeKeepsWindowOfLatestSpec.pre6 enc Try.prog Try.f3 Rows.fnTakeKeepsWindowOfLatestRow.domain false) (Rows.fnTakeKeepsWindowOfLatestSpec.post enc Try.prog Try.f3 false true false false) := by
  refine returnsInHanded_of_change (C := Try.checked) own started (by kernel_rfl) Try.func3
    (ChangeSpec.witness6 (enc := enc) (C := Try.checked) false ⟨#[], #[.int .i64 0, .slice none 0 0, .int .i64 0, .slice none 0 0, .int .i64 0, .int .i64 0, .int .i64 0, .int .i64 0, .agg #[.int .i64 0, .bool false, .int .i64 0]], []⟩ 8 (by kernel_rfl) (by kernel_rfl) (by kernel_rfl) (by kernel_rfl)) ?_
  intro W base args ds gs before hval0 hW hcnd _
  have hval : ∀ (j : Nat) t v, Try.f3.params[j]? = some t → args[j]? = some v → Value.okWide Try.prog W .any base t v := hval0
  have hW' := hW
  obtain ⟨p, q, hA0, hV, rfl, hfz, hnd⟩ := hW
  have hA : DataW.TrodAll enc Try.prog W 0 (fun _ => true) true Try.f3.params.toList args.toList ds p := hA0
  rw [Try.params3] at hA hval
  obtain ⟨v0, vs0, d0, ds0, p0, q0, hargs, rfl, rfl, h0, r0⟩ := trodAll_cons hA
  obtain ⟨v1, vs1, d1, ds1, p1, q1, rfl, rfl, rfl, h1, r1⟩ := trodAll_cons r0
  obtain ⟨v2, vs2, d2, ds2, p2, q2, rfl, rfl, rfl, h2, r2⟩ := trodAll_cons r1
  obtain ⟨v3, vs3, d3, ds3, p3, q3, rfl, rfl, rfl, h3, r3⟩ := trodAll_cons r2
  obtain ⟨v4, vs4, d4, ds4, p4, q4, rfl, rfl, rfl, h4, r4⟩ := trodAll_cons r3
  obtain ⟨v5, vs5, d5, ds5, p5, q5, rfl, rfl, rfl, h5, r5⟩ := trodAll_cons r4
  obtain ⟨v6, vs6, d6, ds6, p6, q6, rfl, rfl, rfl, h6, r6⟩ := trodAll_cons r5
  obtain ⟨v7, vs7, d7, ds7, p7, q7, rfl, rfl, rfl, h7, r7⟩ := trodAll_cons r6
  obtain ⟨v8, vs8, d8, ds8, p8, q8, rfl, rfl, rfl, h8, r8⟩ := trodAll_cons r7
  obtain ⟨rfl, rfl, rfl⟩ := trodAll_nil r8
  obtain rfl : args = #[v0, v1, v2, v3, v4, v5, v6, v7, v8] := by cases args; simp_all
  obtain ⟨rfl, rfl⟩ := trodVars_none hV
  obtain ⟨cnt, e0, hcn⟩ := open_n2 (hval 0 2 v0 rfl rfl) h0
  obtain ⟨a1, n1, c1, rs, e1, m1, t1, z1⟩ := open_outs (hval 1 22 v1 rfl rfl) h1
  obtain ⟨nxt, e2⟩ := open_n3 (hval 2 3 v2 rfl rfl) h2
  obtain ⟨a3, n3, c3, zs, e3, t3⟩ := open_row (hval 3 23 v3 rfl rfl) h3
  obtain ⟨sum, e4, _⟩ := open_n2 (hval 4 2 v4 rfl rfl) h4
  obtain ⟨f, e5⟩ := open_n3 (hval 5 3 v5 rfl rfl) h5
  obtain ⟨t, e6⟩ := open_n3 (hval 6 3 v6 rfl rfl) h6
  obtain ⟨l, e7⟩ := open_n3 (hval 7 3 v7 rfl rfl) h7
  obtain ⟨s, tt, ll, e8⟩ := open_o (hval 8 25 v8 rfl rfl) h8
  have lt0 : ∀ x ∈ p0, x.block < W.heap.size := by obtain ⟨m, hm⟩ := h0; exact DataW.trod_lt m _ _ _ hm
  have lt1 : ∀ x ∈ p1, x.block < W.heap.size := by obtain ⟨m, hm⟩ := h1; exact DataW.trod_lt m _ _ _ hm
  have lt2 : ∀ x ∈ p2, x.block < W.heap.size := by obtain ⟨m, hm⟩ := h2; exact DataW.trod_lt m _ _ _ hm
  have lt3 : ∀ x ∈ p3, x.block < W.heap.size := by obtain ⟨m, hm⟩ := h3; exact DataW.trod_lt m _ _ _ hm
  have lt4 : ∀ x ∈ p4, x.block < W.heap.size := by obtain ⟨m, hm⟩ := h4; exact DataW.trod_lt m _ _ _ hm
  have lt5 : ∀ x ∈ p5, x.block < W.heap.size := by obtain ⟨m, hm⟩ := h5; exact DataW.trod_lt m _ _ _ hm
  have lt6 : ∀ x ∈ p6, x.block < W.heap.size := by obtain ⟨m, hm⟩ := h6; exact DataW.trod_lt m _ _ _ hm
  have lt7 : ∀ x ∈ p7, x.block < W.heap.size := by obtain ⟨m, hm⟩ := h7; exact DataW.trod_lt m _ _ _ hm
  have lt8 : ∀ x ∈ p8, x.block < W.heap.size := by obtain ⟨m, hm⟩ := h8; exact DataW.trod_lt m _ _ _ hm
  subst e0 e1 e2 e3 e4 e5 e6 e7 e8
  clear hA0 hval0
  refine (take_all cnt a1 n1 c1 rs nxt a3 n3 c3 zs sum f t l s tt ll W hcn m1 t1 z1 t3).mono fun e W' ⟨he, bel⟩ => ?_
  subst he
  have bel' : Below W.heap.size W W' := bel
  exact ⟨_, rfl, _, _, _, [], _, [], hW', trodAll_mk1 (shut_bool Try.underlying4 _), (trodAll_cons_mk (Below.trod laidOut (by kernel_rfl) (of_decide_eq_true (by kernel_rfl)) h0 bel' lt0) (trodAll_cons_mk (Below.trod laidOut (by kernel_rfl) (of_decide_eq_true (by kernel_rfl)) h1 bel' lt1) (trodAll_cons_mk (Below.trod laidOut (by kernel_rfl) (of_decide_eq_true (by kernel_rfl)) h2 bel' lt2) (trodAll_cons_mk (Below.trod laidOut (by kernel_rfl) (of_decide_eq_true (by kernel_rfl)) h3 bel' lt3) (trodAll_cons_mk (Below.trod laidOut (by kernel_rfl) (of_decide_eq_true (by kernel_rfl)) h4 bel' lt4) (trodAll_cons_mk (Below.trod laidOut (by kernel_rfl) (of_decide_eq_true (by kernel_rfl)) h5 bel' lt5) (trodAll_cons_mk (Below.trod laidOut (by kernel_rfl) (of_decide_eq_true (by kernel_rfl)) h6 bel' lt6) (trodAll_cons_mk (Below.trod laidOut (by kernel_rfl) (of_decide_eq_true (by kernel_rfl)) h7 bel' lt7) (trodAll_cons_mk (Below.trod laidOut (by kernel_rfl) (of_decide_eq_true (by kernel_rfl)) h8 bel' lt8) trodAll_mk0))))))))), rfl, bel'.frame _, fun h => by cases h⟩

theorem over : Rows.fnTakeKeepsWindowOfLatestRow.holds Try.pinned (OpenSpec.ofChange Rows.fnTakeKeepsWindowOfLatestSpec) :=
  OpenClaim.holds_of_wide 3 Try.f3 rfl rfl rfl rfl rfl rfl rfl ⟨rfl, rfl, rfl, rfl, rfl⟩ rfl rfl rfl rfl rfl (by kernel_rfl) Try.func3 (by kernel_rfl)
    (of_decide_eq_true (by kernel_rfl)) (by unfold Func.isWrapper; first | (rw [if_pos (by decide +kernel)]; kernel_rfl) | (rw [if_neg (by decide +kernel)]; exact ⟨rfl, rfl⟩))
    (fun os started H enc _ => lifted os started H enc)

/-- ████ THE STATEMENT ████ -/
theorem proved : Rows.FnTakeKeepsWindowOfLatestSaid := over
#print axioms proved
end Go.Proofs.Qxb6612353a.fnTakeKeepsWindowOfLatest
