/-
  THE PARTS that the four laws share.
-/
import Derived.Test.Qxb6609219aDeltas
import Derived.Laws.CopyOwn
import Derived.OpenShut
namespace Go.Proofs.Qxb6609219a
open Go.RowKit
set_option linter.unusedVariables false

/-- What comes in: a slice of uint64 (the shell's 'IsRow', written out). -/
def RowAt (k : IntKind) (w : World) (a : Option Addr) (len cap : Nat) (zs : List Int) : Prop :=
  (a = none ∧ len = 0 ∧ cap = 0 ∧ zs = []) ∨
  ∃ x, a = some x ∧ len ≤ cap ∧ cap ≤ maxLen ∧ zs.length = cap ∧ (∀ i, i < zs.length → w.cell? (x.add i) = some (.int k (zs.getD i 0))) ∧ ∀ n ∈ zs, (Lit.int k n).wf = true

/-- The row that the copy leaves. -/
theorem row_of_copy {w2 : World} {g n : Nat} {cur : Array Value} {zs : List Int} (hs : cur.size = n) (hn : n ≤ zs.length)
    (H : w2.heap[g]? = some (.cells (splice cur.toList 0 ((zs.take n).map (Value.int .u64))).toArray 25 (0, 0))) :
    RowIn w2 (some ⟨g, 0, none⟩) n n (zs.take n) := by
  have hl : (zs.take n).length = n := by simp; omega
  have e : splice cur.toList 0 ((zs.take n).map (Value.int .u64)) = (zs.take n).map (Value.int .u64) := by
    unfold splice
    rw [List.drop_of_length_le (by simp; omega)]
    simp
  rw [e] at H
  refine ⟨hl, .inr ⟨g, 0, rfl, (Array.getElem?_eq_some_iff.1 H).1, fun j hj => ?_⟩⟩
  rw [cell_of_row w2 g (0 + j) _ 25 (0, 0) H]
  simp [hj, show j < zs.length by omega]

theorem made_row {w0 : World} {g n : Nat} {z : Value} (h : w0.ownsRow g 25 1 (.slice (some ⟨g, 0, none⟩) n n) n (madeCells #[z] n).toList) :
    ∃ cur : Array Value, cur.size = n ∧ w0.heap[g]? = some (.cells cur.toList.toArray 25 (0, 0)) := by
  rcases h.2 with ⟨h', _⟩ | ⟨g', cap', cur, h', _, hg, _, _, hs, _⟩
  · simp at h'
  · simp only [Value.slice.injEq, Option.some.injEq, Addr.mk.injEq, and_true, true_and] at h'
    obtain ⟨rfl, rfl⟩ := h'
    exact ⟨cur, by simpa using hs, by simpa using hg⟩

theorem src_cells {w w1 : World} {x : Addr} {n : Nat} {zs : List Int} (hn : n ≤ zs.length) (hc : ∀ i, i < zs.length → w.cell? (x.add i) = some (.int .u64 (zs.getD i 0))) (hg : w.grownBy w1 none) :
    ∀ j v, ((zs.take n).map (Value.int .u64))[j]? = some v → w1.cell? (x.add j) = some v := by
  intro j v hv
  have hj : j < n := by have := (List.getElem?_eq_some_iff.1 hv).1; simp at this; omega
  have hjz : j < zs.length := by omega
  have e : ((zs.take n).map (Value.int .u64))[j]? = some (.int .u64 (zs.getD j 0)) := by simp [hj, hjz]
  rw [e] at hv
  rw [← hv]
  exact hg.cell (hc j hjz) (by simp)

theorem cells_kept {w2 w3 : World} {g n cap : Nat} {xs : List Int} (h : RowIn w2 (some ⟨g, 0, none⟩) n cap xs) (hb : Below w2.heap.size w2 w3) :
    ∀ j, j < n → w3.cell? ⟨g, j, none⟩ = some (.int .u64 (xs.getD j 0)) := by
  obtain ⟨_, ⟨h', _⟩ | ⟨b, off, h', hbz, hc⟩⟩ := h
  · simp at h'
  · simp only [Option.some.injEq, Addr.mk.injEq, and_true] at h'
    obtain ⟨rfl, rfl⟩ := h'
    intro j hj
    have := hc j hj
    rw [Nat.zero_add] at this
    exact (hb.cell (by exact hbz)).trans this

theorem wrap_u64_back (p x : Int) (h0 : 0 ≤ x) (h1 : x < 18446744073709551616) : IntKind.u64.wrap (p + IntKind.u64.wrap (x - p)) = x := by
  simp only [IntKind.wrap, IntKind.bits, IntKind.signed, Bool.false_and]
  simp
  omega

theorem prevOf_len (xs : List Int) (k : Nat) (h : k < xs.length) : prevOf xs (k + 1) = xs.getD k 0 := by simp [prevOf]

theorem wf_take {zs : List Int} (n : Nat) (hw : ∀ m ∈ zs, (Lit.int .u64 m).wf = true) (j : Nat) : 0 ≤ (zs.take n).getD j 0 ∧ (zs.take n).getD j 0 < 18446744073709551616 := by
  have := range_u64 (zs := zs.take n) (fun m hm => hw m (List.mem_of_mem_take hm)) j
  rw [List.getD]
  omega

theorem sum_step {zs : List Int} (n k : Nat) (hw : ∀ m ∈ zs, (Lit.int .u64 m).wf = true) :
    IntKind.u64.wrap (prevOf (zs.take n) k + gapOf (zs.take n) k) = (zs.take n).getD k 0 := by
  have := wf_take n hw k
  exact wrap_u64_back _ _ this.1 this.2

theorem wrap_i64_u64 (g : Int) (h0 : 0 ≤ g) (h1 : g < 18446744073709551616) : IntKind.u64.wrap (wrap64 g) = g := by
  simp only [IntKind.wrap, IntKind.bits, IntKind.signed, Bool.false_and, wrap64]
  simp
  omega

theorem gapOf_range (xs : List Int) (k : Nat) : 0 ≤ gapOf xs k ∧ gapOf xs k < 18446744073709551616 := by
  simp only [gapOf, IntKind.wrap, IntKind.bits, IntKind.signed, Bool.false_and]
  simp
  omega

theorem dif_gap (xs : List Int) (k : Nat) : IntKind.u64.wrap (difOf xs k) = gapOf xs k :=
  wrap_i64_u64 _ (gapOf_range xs k).1 (gapOf_range xs k).2

theorem dif_step {zs : List Int} (n k : Nat) (hw : ∀ m ∈ zs, (Lit.int .u64 m).wf = true) :
    IntKind.u64.wrap (prevOf (zs.take n) k + IntKind.u64.wrap (difOf (zs.take n) k)) = (zs.take n).getD k 0 := by
  rw [dif_gap]
  exact sum_step n k hw

theorem RowIn.keep {w w' : World} {a : Option Addr} {n cap : Nat} {xs : List Int} (h : RowIn w a n cap xs) (hb : Below w.heap.size w w') : RowIn w' a n cap xs := by
  obtain ⟨hl, h | ⟨b, off, rfl, hbz, hc⟩⟩ := h
  · exact ⟨hl, .inl h⟩
  · exact ⟨hl, .inr ⟨b, off, rfl, Nat.lt_of_lt_of_le hbz hb.size, fun j hj => (hb.cell (by exact hbz)).trans (hc j hj)⟩⟩

theorem RowIn.cells {w : World} {g n cap : Nat} {xs : List Int} (h : RowIn w (some ⟨g, 0, none⟩) n cap xs) :
    ∀ j, j < n → w.cell? ⟨g, j, none⟩ = some (.int .u64 (xs.getD j 0)) := cells_kept h (Below.refl _ _)

theorem row_of_own {w : World} {B n : Nat} {ys : List Int} (hy : ys.length = n) (h : w.ownsRow B 25 1 (.slice (some ⟨B, 0, none⟩) n n) n (ys.map (Value.int .u64))) :
    RowIn w (some ⟨B, 0, none⟩) n n ys := by
  refine ⟨hy, .inr ⟨B, 0, rfl, (h.lt _ rfl).2, fun j hj => ?_⟩⟩
  rw [Nat.zero_add, h.cellAt j (by omega)]
  simp [hy, hj]

theorem row_of_made0 {w : World} {B : Nat} {z : Value} (h : w.ownsRow B 25 1 (.slice (some ⟨B, 0, none⟩) 0 0) 0 (madeCells #[z] 0).toList) :
    RowIn w (some ⟨B, 0, none⟩) 0 0 [] :=
  ⟨rfl, .inr ⟨B, 0, rfl, (h.lt _ rfl).2, fun j hj => absurd hj (Nat.not_lt_zero _)⟩⟩

theorem wrap_shift (x p c : Int) : IntKind.u64.wrap (IntKind.u64.wrap (x + c) - IntKind.u64.wrap (p + c)) = IntKind.u64.wrap (x - p) := by
  simp only [IntKind.wrap, IntKind.bits, IntKind.signed, Bool.false_and]
  simp
  omega

theorem wrap_wrap (x : Int) : IntKind.u64.wrap (IntKind.u64.wrap x) = IntKind.u64.wrap x := by
  simp only [IntKind.wrap, IntKind.bits, IntKind.signed, Bool.false_and]
  simp

theorem wrap_same (x : Int) (h0 : 0 ≤ x) (h1 : x < 18446744073709551616) : IntKind.u64.wrap x = x := by
  simp only [IntKind.wrap, IntKind.bits, IntKind.signed, Bool.false_and]
  simp
  omega

/-- The gaps of the shifted list. -/
theorem gap_shift {zs ys : List Int} (n k : Nat) (c : Int) (hk : k < n) (h0 : k ≠ 0) (hf : ∀ j, j < n → ys.getD j 0 = IntKind.u64.wrap ((zs.take n).getD j 0 + c)) :
    gapOf ys k = gapOf (zs.take n) k := by
  unfold gapOf prevOf
  rw [if_neg h0, if_neg h0, hf k hk, hf (k - 1) (by omega)]
  exact wrap_shift _ _ _

theorem gap_zero {zs : List Int} (n : Nat) (hw : ∀ m ∈ zs, (Lit.int .u64 m).wf = true) : gapOf (zs.take n) 0 = (zs.take n).getD 0 0 := by
  have h := wf_take n hw 0
  unfold gapOf prevOf
  rw [if_pos rfl, Int.sub_zero]
  exact wrap_same _ h.1 h.2

theorem gap_zero_shift {zs ys : List Int} (n : Nat) (c : Int) (hn : 0 < n) (hf : ∀ j, j < n → ys.getD j 0 = IntKind.u64.wrap ((zs.take n).getD j 0 + c)) :
    gapOf ys 0 = IntKind.u64.wrap ((zs.take n).getD 0 0 + c) := by
  unfold gapOf prevOf
  rw [if_pos rfl, Int.sub_zero, hf 0 hn]
  exact wrap_wrap _

theorem prevOf_range {zs : List Int} (n k : Nat) (hw : ∀ m ∈ zs, (Lit.int .u64 m).wf = true) : 0 ≤ prevOf (zs.take n) k ∧ prevOf (zs.take n) k < 18446744073709551616 := by
  unfold prevOf
  split
  · omega
  · exact wf_take n hw _

/-- A rise of less than 2^63. -/
theorem rise_small (v p : Int) (hp : 0 ≤ p) (hv : v < 18446744073709551616) (h : p ≤ v) (hm : IntKind.u64.wrap (v - p) < 9223372036854775808) : ¬ wrap64 (IntKind.u64.wrap (v - p)) < 0 := by
  rw [wrap_same _ (by omega) (by omega)] at hm ⊢
  unfold wrap64
  omega

theorem rise_great (v p : Int) (hp : 0 ≤ p) (hv : v < 18446744073709551616) (h : p ≤ v) (hm : ¬ IntKind.u64.wrap (v - p) < 9223372036854775808) : wrap64 (IntKind.u64.wrap (v - p)) < 0 := by
  rw [wrap_same _ (by omega) (by omega)] at hm ⊢
  unfold wrap64
  omega

theorem fall_wrap (v p : Int) (hv : 0 ≤ v) (hp : p < 18446744073709551616) (h : v < p) : IntKind.u64.wrap (v - p) = v - p + 18446744073709551616 := by
  simp only [IntKind.wrap, IntKind.bits, IntKind.signed, Bool.false_and]
  simp
  omega

theorem fall_small (v p : Int) (hv : 0 ≤ v) (hp : p < 18446744073709551616) (h : v < p) (hm : IntKind.u64.wrap (p - v) ≤ 9223372036854775808) :
    wrap64 (IntKind.u64.wrap (v - p)) < 0 ∧ IntKind.u64.wrap (IntKind.u64.wrap (wrap64 (-(wrap64 (wrap64 (IntKind.u64.wrap (v - p)) + 1)))) + 1) = IntKind.u64.wrap (p - v) := by
  rw [wrap_same (p - v) (by omega) (by omega)] at hm ⊢
  rw [fall_wrap v p hv hp h]
  have e : wrap64 (v - p + 18446744073709551616) = v - p := by unfold wrap64; omega
  rw [e]
  have e2 : wrap64 (-(wrap64 (v - p + 1))) = p - v - 1 := by unfold wrap64; omega
  rw [e2, wrap_same (p - v - 1) (by omega) (by omega)]
  exact ⟨by omega, by rw [wrap_same _ (by omega) (by omega)]; omega⟩

theorem fall_great (v p : Int) (hv : 0 ≤ v) (hp : p < 18446744073709551616) (h : v < p) (hm : ¬ IntKind.u64.wrap (p - v) ≤ 9223372036854775808) : ¬ wrap64 (IntKind.u64.wrap (v - p)) ≤ 0 := by
  rw [wrap_same (p - v) (by omega) (by omega)] at hm
  rw [fall_wrap v p hv hp h]
  unfold wrap64
  omega

end Go.Proofs.Qxb6609219a
