/-
  ROWS OF OUTCOMES: what the walk is told of them; 'outsEqual', 'readOuts', 'toOutcomes'.
-/
import Derived.Test.Qxb6612353aSmall
namespace Go.Proofs.Qxb6612353a
open Go.RowKit
set_option linter.unusedVariables false

def o0 : O := (0, false, 0)
/-- at this place lies the outcome o -/
def Out3 (w : World) (b off : Nat) (o : O) : Prop :=
  w.cell? ⟨b, off, none⟩ = some (.int .i64 o.1) ∧ w.cell? ⟨b, off + 1, none⟩ = some (.bool o.2.1) ∧ w.cell? ⟨b, off + 2, none⟩ = some (.int .i64 o.2.2)
/-- from this place on lie the first k of the outcomes rs, three cells each -/
def OutsUp (w : World) (b off : Nat) (rs : List O) (k : Nat) : Prop := ∀ j, j < k → Out3 w b (off + j * 3) (rs.getD j o0)
/-- m cells that may be written -/
def Free (w : World) (b m : Nat) : Prop := ∀ j, j < m → (∃ v, w.cell? ⟨b, j, none⟩ = some v) ∧ w.frozen? ⟨b, j, none⟩ = false

theorem Out3.keep {w w' : World} {b off : Nat} {o : O} (h : Out3 w b off o) (hl : Later w w') : Out3 w' b off o := ⟨hl.cell h.1, hl.cell h.2.1, hl.cell h.2.2⟩
theorem OutsUp.keep {w w' : World} {b off : Nat} {rs : List O} {k : Nat} (h : OutsUp w b off rs k) (hl : Later w w') : OutsUp w' b off rs k := fun j hj => (h j hj).keep hl
theorem Free.keep {w w' : World} {b m : Nat} (h : Free w b m) (hl : Later w w') : Free w' b m := fun j hj => by
  obtain ⟨⟨v, hv⟩, hf⟩ := h j hj
  exact ⟨⟨v, hl.cell hv⟩, hl.frozen hv hf⟩
theorem Free.store {w : World} {b m : Nat} (h : Free w b m) (a : Addr) (x : Value) : Free (w.setCell a x) b m := fun j hj => by
  obtain ⟨⟨v, hv⟩, hf⟩ := h j hj
  exact ⟨cell?_setCell_some hv, by rw [World.frozen?_setCell]; exact hf⟩

/-- three cells stored -/
def set3 (w : World) (b off : Nat) (o : O) : World := ((w.setCell ⟨b, off, none⟩ (.int .i64 o.1)).setCell ⟨b, off + 1, none⟩ (.bool o.2.1)).setCell ⟨b, off + 2, none⟩ (.int .i64 o.2.2)
theorem set3_here {w : World} {b m off : Nat} (o : O) (h : Free w b m) (hm : off + 2 < m) : Out3 (set3 w b off o) b off o := by
  obtain ⟨⟨v0, c0⟩, _⟩ := h off (by omega)
  obtain ⟨⟨v1, c1⟩, _⟩ := h (off + 1) (by omega)
  obtain ⟨⟨v2, c2⟩, _⟩ := h (off + 2) hm
  refine ⟨?_, ?_, ?_⟩
  · unfold set3
    rw [World.cell?_setCell_other _ _ _ _ (by simp), World.cell?_setCell_other _ _ _ _ (by simp)]
    exact World.cell?_setCell_same _ _ _ c0
  · unfold set3
    rw [World.cell?_setCell_other _ _ _ _ (by simp)]
    exact World.cell?_setCell_same _ _ _ ((World.cell?_setCell_other _ _ _ _ (by simp)).trans c1)
  · unfold set3
    exact World.cell?_setCell_same _ _ _ ((World.cell?_setCell_other _ _ _ _ (by simp)).trans ((World.cell?_setCell_other _ _ _ _ (by simp)).trans c2))
theorem set3_other {w : World} {b off c j : Nat} (o : O) (h : c ≠ b ∨ j < off ∨ off + 2 < j) : (set3 w b off o).cell? ⟨c, j, none⟩ = w.cell? ⟨c, j, none⟩ := by
  unfold set3
  rw [World.cell?_setCell_other _ _ _ _ (by simp; omega), World.cell?_setCell_other _ _ _ _ (by simp; omega), World.cell?_setCell_other _ _ _ _ (by simp; omega)]
theorem Free.set3 {w : World} {b m off : Nat} (o : O) (h : Free w b m) : Free (set3 w b off o) b m := ((h.store _ _).store _ _).store _ _
theorem below_set3 {B : Nat} {a w : World} (h : Below B a w) {b off : Nat} (hb : B ≤ b) (o : O) : Below B a (set3 w b off o) :=
  Below.setCell (Below.setCell (Below.setCell h hb _) hb _) hb _
theorem OutsUp.step {w : World} {b m k : Nat} {rs : List O} (h : OutsUp w b 0 rs k) (hF : Free w b m) (hm : k * 3 + 2 < m) : OutsUp (set3 w b (k * 3) (rs.getD k o0)) b 0 rs (k + 1) := by
  intro j hj
  by_cases e : j = k
  · subst e
    rw [Nat.zero_add]
    exact set3_here _ hF hm
  · have h' := h j (by omega)
    rw [Nat.zero_add] at h' ⊢
    exact ⟨(set3_other _ (.inr (.inl (by omega)))).trans h'.1, (set3_other _ (.inr (.inl (by omega)))).trans h'.2.1, (set3_other _ (.inr (.inl (by omega)))).trans h'.2.2⟩

/-- a row that 'make' has laid may be written -/
theorem free_of_made {w : World} {B e size n cap : Nat} {xs : List Value} (h : w.ownsRow B e size (.slice (some ⟨B, 0, none⟩) n cap) n xs) : Free w B (n * size) := by
  intro j hj
  refine ⟨⟨xs[j]'(by rw [h.1]; exact hj), ?_⟩, h.frozenAt j⟩
  rw [h.cellAt j hj]
  exact List.getElem?_eq_getElem _

set_option maxHeartbeats 400000 in
theorem outsEqual_true (b off n cap b2 off2 cap2 : Nat) (rs : List O) (w : World) (hle : n ≤ 1000) (h1 : OutsUp w b off rs n) (h2 : OutsUp w b2 off2 rs n) :
    Calls Try.prog 29 #[.slice (some ⟨b, off, none⟩) n cap, .slice (some ⟨b2, off2, none⟩) n cap2] w fun e w' => e = .returned (.bool true) ∧ ∃ q, w' = w.drewN q := by
  have H1 : Hid (OutsUp w b off rs n) := h1
  have H2 : Hid (OutsUp w b2 off2 rs n) := h2
  clear h1 h2
  go_enter Try.func29, Try.ntmps29
  go_wp2
  go_loopw [5] (fun i W => ∃ (k q : Nat), k ≤ n ∧ i = .int .i64 k ∧ W = w.drewN q) (fun i _ => n - (intOf i).toNat)
  case atStart => exact ⟨0, 0, Nat.zero_le _, rfl, rfl⟩
  case round =>
    obtain ⟨k, q, hk, rfl, rfl⟩ := hrel
    by_cases hlt : k < n
    · obtain ⟨c0, c1, c2⟩ := H1.out k hlt
      obtain ⟨d0, d1, d2⟩ := H2.out k hlt
      generalize rs.getD k o0 = o at c0 c1 c2 d0 d1 d2
      obtain ⟨s, t, l⟩ := o
      have hki : (k : Int) < (n : Int) := by omega
      go_wp2
      go_region
      go_wp2
      go_roundw
      case rel => exact ⟨k + 1, q + 1, by omega, by go_num, rfl⟩
      case measure => simp [intOf]; omega
    · go_wp2
      go_ret
      exact ⟨rfl, _, rfl⟩

theorem Try.info25 : (Try.prog.info? 25).map (fun i => (i.zero, i.size, i.bytes)) = some (some (.agg #[.int .i64 0, .bool false, .int .i64 0]), 3, 24) := by kernel_rfl
theorem Try.info36 : (Try.prog.info? 36).map (fun i => (i.zero, i.size, i.bytes)) = some (some (.agg #[.int .i64 0, .bool false, .int .i64 0]), 3, 24) := by kernel_rfl

set_option maxHeartbeats 1000000 in
theorem readOuts_any (b off n cap : Nat) (rs : List O) (w : World) (hle : n ≤ 1001) (hb : b < w.heap.size) (h1 : OutsUp w b off rs n) :
    Calls Try.prog 16 #[.slice (some ⟨b, off, none⟩) n cap] w fun e w' => e = .returned (.slice (some ⟨w.heap.size, 0, none⟩) n n) ∧ OutsUp w' w.heap.size 0 rs n ∧ Later w w' ∧ w.heap.size < w'.heap.size := by
  obtain ⟨i0, hi, hz0, hz1, hz2⟩ := info_parts Try.info25
  have H1 : Hid (OutsUp w b off rs n) := h1
  clear h1
  go_enter Try.func16, Try.ntmps16
  go_wp2_with (at_make; refine wpList_make_full _ rfl _ _ 22 rfl w.heap.size 25 i0 _ 3 Try.underlying22 hi hz0 hz1 _ _ _ _ n rfl rfl rfl rfl ?b2 ?b3 (Nat.le_refl _) ?_)
  case b2 => rw [hz2]; omega
  case b3 => unfold maxLen; omega
  intro w0 hown0 hgrow0
  have F0 : Hid (Free w0 w.heap.size (n * 3)) := free_of_made hown0
  have B0 : Hid (Below w.heap.size w w0) := (Below.refl _ _).grown hgrow0 (Nat.le_refl _) (fun k h => by cases h)
  have Z0 : Hid (w.heap.size < w0.heap.size) := (hown0.lt _ rfl).2
  clear hown0 hgrow0
  go_wp2
  go_loopw [4] (fun i wr => ∃ (k : Nat), k ≤ n ∧ i = .int .i64 k ∧ OutsUp wr w.heap.size 0 rs k ∧ Free wr w.heap.size (n * 3) ∧ Below w.heap.size w wr ∧ w.heap.size < wr.heap.size) (fun i _ => n - (intOf i).toNat)
  case atStart => exact ⟨0, Nat.zero_le _, rfl, fun j hj => absurd hj (Nat.not_lt_zero _), F0.out, B0.out, Z0.out⟩
  case round =>
    clear F0 B0 Z0
    obtain ⟨k, hk, rfl, hu, hF, hB, hZ⟩ := hrel
    by_cases hlt : k < n
    · obtain ⟨c0, c1, c2⟩ := H1.out k hlt
      have ho : OutsUp (set3 wr w.heap.size (k * 3) (rs.getD k o0)) w.heap.size 0 rs (k + 1) := hu.step hF (by omega)
      have hF' : Free (set3 wr w.heap.size (k * 3) (rs.getD k o0)) w.heap.size (n * 3) := hF.set3 _
      have hB' : Below w.heap.size w (set3 wr w.heap.size (k * 3) (rs.getD k o0)) := below_set3 hB (Nat.le_refl _) _
      have hZ' : w.heap.size < (set3 wr w.heap.size (k * 3) (rs.getD k o0)).heap.size := by simpa [set3] using hZ
      replace c0 := (hB.cell (by exact hb)).trans c0
      replace c1 := (hB.cell (by exact hb)).trans c1
      replace c2 := (hB.cell (by exact hb)).trans c2
      obtain ⟨⟨v0, e0⟩, f0⟩ := hF (k * 3) (by omega)
      obtain ⟨⟨v1, e1⟩, f1⟩ := hF (k * 3 + 1) (by omega)
      obtain ⟨⟨v2, e2⟩, f2⟩ := hF (k * 3 + 2) (by omega)
      generalize rs.getD k o0 = o at c0 c1 c2 ho hF' hB' hZ'
      have G : Hid (OutsUp (set3 wr w.heap.size (k * 3) o) w.heap.size 0 rs (k + 1) ∧ Free (set3 wr w.heap.size (k * 3) o) w.heap.size (n * 3) ∧ Below w.heap.size w (set3 wr w.heap.size (k * 3) o) ∧ w.heap.size < (set3 wr w.heap.size (k * 3) o).heap.size) := ⟨ho, hF', hB', hZ'⟩
      clear ho hF' hB' hZ' hu hF hB
      obtain ⟨s, t, l⟩ := o
      have hki : (k : Int) < (n : Int) := by omega
      go_wp2
      go_region
      go_wp2
      go_roundw
      case rel => exact ⟨k + 1, by omega, by go_num, G.out.1, G.out.2.1, G.out.2.2.1.drew, G.out.2.2.2⟩
      case measure => simp [intOf]; omega
    · obtain rfl : k = n := by omega
      go_wp2
      go_ret
      exact ⟨rfl, hu, hB, hZ⟩

set_option maxHeartbeats 1000000 in
theorem toOutcomes_any (b off n cap : Nat) (rs : List O) (w : World) (hle : n ≤ 1000) (hb : b < w.heap.size) (h1 : OutsUp w b off rs n) :
    Calls Try.prog 10 #[.slice (some ⟨b, off, none⟩) n cap] w fun e w' => e = .returned (.slice (some ⟨w.heap.size, 0, none⟩) n n) ∧ OutsUp w' w.heap.size 0 rs n ∧ Free w' w.heap.size (n * 3) ∧ Later w w' ∧ w.heap.size < w'.heap.size := by
  obtain ⟨i0, hi, hz0, hz1, hz2⟩ := info_parts Try.info36
  have hne := fun wx => Lib.run_eql_slice_nil (P := Try.prog) wx 22 25 (some ⟨b, off, none⟩) n cap 0 0 Try.underlying22
  have H1 : Hid (OutsUp w b off rs n) := h1
  clear h1
  go_enter Try.func10, Try.ntmps10
  go_wp2_with (at_make; refine wpList_make_full _ rfl _ _ 31 rfl w.heap.size 36 i0 _ 3 Try.underlying31 hi hz0 hz1 _ _ _ _ n rfl rfl rfl rfl ?b2 ?b3 (Nat.le_refl _) ?_)
  case b2 => rw [hz2]; omega
  case b3 => unfold maxLen; omega
  intro w0 hown0 hgrow0
  have F0 : Hid (Free w0 w.heap.size (n * 3)) := free_of_made hown0
  have B0 : Hid (Below w.heap.size w w0) := (Below.refl _ _).grown hgrow0 (Nat.le_refl _) (fun k h => by cases h)
  have Z0 : Hid (w.heap.size < w0.heap.size) := (hown0.lt _ rfl).2
  clear hown0 hgrow0 hne
  go_wp2
  go_loopw [4] (fun i wr => ∃ (k : Nat), k ≤ n ∧ i = .int .i64 k ∧ OutsUp wr w.heap.size 0 rs k ∧ Free wr w.heap.size (n * 3) ∧ Below w.heap.size w wr ∧ w.heap.size < wr.heap.size) (fun i _ => n - (intOf i).toNat)
  case atStart => exact ⟨0, Nat.zero_le _, rfl, fun j hj => absurd hj (Nat.not_lt_zero _), F0.out, B0.out, Z0.out⟩
  case round =>
    clear F0 B0 Z0
    obtain ⟨k, hk, rfl, hu, hF, hB, hZ⟩ := hrel
    by_cases hlt : k < n
    · obtain ⟨c0, c1, c2⟩ := H1.out k hlt
      replace c0 := (hB.cell (by exact hb)).trans c0
      replace c1 := (hB.cell (by exact hb)).trans c1
      replace c2 := (hB.cell (by exact hb)).trans c2
      have HU : Hid (OutsUp wr w.heap.size 0 rs k) := hu
      have HF : Hid (Free wr w.heap.size (n * 3)) := hF
      have HB : Hid (Below w.heap.size w wr) := hB
      have HO : Hid (∀ w2, Later wr w2 → OutsUp (set3 w2 w.heap.size (k * 3) (rs.getD k o0)) w.heap.size 0 rs (k + 1)) := fun w2 hl => (hu.keep hl).step (hF.keep hl) (by omega)
      clear hu hF hB
      generalize rs.getD k o0 = o at c0 c1 c2 HO
      obtain ⟨s, t, l⟩ := o
      have hki : (k : Int) < (n : Int) := by omega
      go_wp2_with (go_at_call 12; refine (toOutcome_any s t l _).mono ?_; rintro e w2 ⟨rfl, hl⟩; obtain ⟨⟨v0, e0⟩, f0⟩ := HF.out.keep hl (k * 3) (by omega); obtain ⟨⟨v1, e1⟩, f1⟩ := HF.out.keep hl (k * 3 + 1) (by omega); obtain ⟨⟨v2, e2⟩, f2⟩ := HF.out.keep hl (k * 3 + 2) (by omega))
      have G : OutsUp (set3 w2 w.heap.size (k * 3) (s, t, l)) w.heap.size 0 rs (k + 1) ∧ Free (set3 w2 w.heap.size (k * 3) (s, t, l)) w.heap.size (n * 3) ∧ Below w.heap.size w (set3 w2 w.heap.size (k * 3) (s, t, l)) ∧ w.heap.size < (set3 w2 w.heap.size (k * 3) (s, t, l)).heap.size :=
        ⟨HO.out w2 hl, (HF.out.keep hl).set3 _, below_set3 (HB.out.trans (Below.mono hl (Nat.le_of_lt hZ))) (Nat.le_refl _) _, by have := hl.size; simp [set3]; omega⟩
      go_roundw
      case rel => exact ⟨k + 1, by omega, by go_num, G.1, G.2.1, G.2.2.1, G.2.2.2⟩
      case measure => simp [intOf]; omega
    · obtain rfl : k = n := by omega
      go_wp2
      go_ret
      exact ⟨rfl, hu, hF, hB, hZ⟩

/-- the cells of outcomes -/
def outCells : List O → List Value
  | [] => []
  | o :: r => .int .i64 o.1 :: .bool o.2.1 :: .int .i64 o.2.2 :: outCells r
theorem outCells_len (rs : List O) : (outCells rs).length = rs.length * 3 := by
  induction rs with
  | nil => rfl
  | cons o r ih => simp [outCells, ih]; omega
theorem outCells_app (a b : List O) : outCells (a ++ b) = outCells a ++ outCells b := by
  induction a with
  | nil => rfl
  | cons o r ih => simp [outCells, ih]
theorem outCells_at : ∀ (rs : List O) (j : Nat), j < rs.length → (outCells rs)[j * 3]? = some (.int .i64 (rs.getD j o0).1) ∧ (outCells rs)[j * 3 + 1]? = some (.bool (rs.getD j o0).2.1) ∧ (outCells rs)[j * 3 + 2]? = some (.int .i64 (rs.getD j o0).2.2)
  | [], j, h => by simp at h
  | o :: r, 0, _ => by simp [outCells]
  | o :: r, j + 1, h => by
    have ih := outCells_at r j (by simpa using h)
    have e : (j + 1) * 3 = j * 3 + 3 := by omega
    rw [e]
    simpa [outCells] using ih
theorem outs_of_own {w : World} {B g e n cap : Nat} {rs : List O} (hn : rs.length = n) (h : w.ownsRow B e 3 (.slice (some ⟨g, 0, none⟩) n cap) n (outCells rs)) : OutsUp w g 0 rs n := by
  intro j hj
  obtain ⟨a0, a1, a2⟩ := outCells_at rs j (by omega)
  rw [Nat.zero_add]
  exact ⟨by rw [h.cellAt _ (by omega)]; exact a0, by rw [h.cellAt _ (by omega)]; exact a1, by rw [h.cellAt _ (by omega)]; exact a2⟩

/-- the first k of rs but for place p -/
def wo (rs : List O) (p k : Nat) : List O := if p < k then (rs.take k).eraseIdx p else rs.take k
theorem wo_len_le (rs : List O) (p k : Nat) : (wo rs p k).length ≤ k := by
  unfold wo
  split
  · have := List.length_eraseIdx_le (rs.take k) p
    have := List.length_take_le k rs
    omega
  · exact List.length_take_le _ _
theorem take_snoc (rs : List O) (k : Nat) (h : k < rs.length) : rs.take (k + 1) = rs.take k ++ [rs.getD k o0] := by
  rw [List.take_succ_eq_append_getElem h]
  simp [List.getD, h]
theorem wo_skip (rs : List O) (p : Nat) (h : p < rs.length) : wo rs p (p + 1) = wo rs p p := by
  unfold wo
  rw [if_pos (by omega), if_neg (by omega), take_snoc rs p h, List.eraseIdx_append_of_length_le (by simp; omega)]
  simp [show p - min p rs.length = 0 by omega]
theorem wo_keep (rs : List O) (p k : Nat) (h : k < rs.length) (hk : k ≠ p) : wo rs p (k + 1) = wo rs p k ++ [rs.getD k o0] := by
  unfold wo
  by_cases hp : p < k
  · rw [if_pos (by omega), if_pos hp, take_snoc rs k h, List.eraseIdx_append_of_lt_length (by simp; omega)]
  · rw [if_neg (by omega), if_neg hp, take_snoc rs k h]
end Go.Proofs.Qxb6612353a
