/-
  THE PARTS that the four laws share.
-/
import Derived.Test.Qxb6609219aDeltas
import Derived.Laws.CopyOwn
import Derived.OpenShut
namespace Go.Proofs.Qxb6609219a
open Go.RowKit
set_option linter.unusedVariables false

/-- What comes in: a slice of uint64 (the shell's 'IsRow', written out). -/
def RowAt (k : IntKind) (w : World) (a : Option Addr) (len cap : Nat) (zs : List Int) : Prop :=
  (a = none ∧ len = 0 ∧ cap = 0 ∧ zs = []) ∨
  ∃ x, a = some x ∧ len ≤ cap ∧ cap ≤ maxLen ∧ zs.length = cap ∧ (∀ i, i < zs.length → w.cell? (x.add i) = some (.int k (zs.getD i 0))) ∧ ∀ n ∈ zs, (Lit.int k n).wf = true

/-- The row that the copy leaves. -/
theorem row_of_copy {w2 : World} {g n : Nat} {cur : Array Value} {zs : List Int} (hs : cur.size = n) (hn : n ≤ zs.length)
    (H : w2.heap[g]? = some (.cells (splice cur.toList 0 ((zs.take n).map (Value.int .u64))).toArray 25 (0, 0))) :
    RowIn w2 (some ⟨g, 0, none⟩) n n (zs.take n) := by
  have hl : (zs.take n).length = n := by simp; omega
  have e : splice cur.toList 0 ((zs.take n).map (Value.int .u64)) = (zs.take n).map (Value.int .u64) := by
    unfold splice
    rw [List.drop_of_length_le (by simp; omega)]
    simp
  rw [e] at H
  refine ⟨hl, .inr ⟨g, 0, rfl, (Array.getElem?_eq_some_iff.1 H).1, fun j hj => ?_⟩⟩
  rw [cell_of_row w2 g (0 + j) _ 25 (0, 0) H]
  simp [hj, show j < zs.length by omega]

theorem made_row {w0 : World} {g n : Nat} {z : Value} (h : w0.ownsRow g 25 1 (.slice (some ⟨g, 0, none⟩) n n) n (madeCells #[z] n).toList) :
    ∃ cur : Array Value, cur.size = n ∧ w0.heap[g]? = some (.cells cur.toList.toArray 25 (0, 0)) := by
  rcases h.2 with ⟨h', _⟩ | ⟨g', cap', cur, h', _, hg, _, _, hs, _⟩
  · simp at h'
  · simp only [Value.slice.injEq, Option.some.injEq, Addr.mk.injEq, and_true, true_and] at h'
    obtain ⟨rfl, rfl⟩ := h'
    exact ⟨cur, by simpa using hs, by simpa using hg⟩

theorem src_cells {w w1 : World} {x : Addr} {n : Nat} {zs : List Int} (hn : n ≤ zs.length) (hc : ∀ i, i < zs.length → w.cell? (x.add i) = some (.int .u64 (zs.getD i 0))) (hg : w.grownBy w1 none) :
    ∀ j v, ((zs.take n).map (Value.int .u64))[j]? = some v → w1.cell? (x.add j) = some v := by
  intro j v hv
  have hj : j < n := by have := (List.getElem?_eq_some_iff.1 hv).1; simp at this; omega
  have hjz : j < zs.length := by omega
  have e : ((zs.take n).map (Value.int .u64))[j]? = some (.int .u64 (zs.getD j 0)) := by simp [hj, hjz]
  rw [e] at hv
  rw [← hv]
  exact hg.cell (hc j hjz) (by simp)

theorem cells_kept {w2 w3 : World} {g n cap : Nat} {xs : List Int} (h : RowIn w2 (some ⟨g, 0, none⟩) n cap xs) (hb : Below w2.heap.size w2 w3) :
    ∀ j, j < n → w3.cell? ⟨g, j, none⟩ = some (.int .u64 (xs.getD j 0)) := by
  obtain ⟨_, ⟨h', _⟩ | ⟨b, off, h', hbz, hc⟩⟩ := h
  · simp at h'
  · simp only [Option.some.injEq, Addr.mk.injEq, and_true] at h'
    obtain ⟨rfl, rfl⟩ := h'
    intro j hj
    have := hc j hj
    rw [Nat.zero_add] at this
    exact (hb.cell (by exact hbz)).trans this

theorem wrap_u64_back (p x : Int) (h0 : 0 ≤ x) (h1 : x < 18446744073709551616) : IntKind.u64.wrap (p + IntKind.u64.wrap (x - p)) = x := by
  simp only [IntKind.wrap, IntKind.bits, IntKind.signed, Bool.false_and]
  simp
  omega

theorem prevOf_len (xs : List Int) (k : Nat) (h : k < xs.length) : prevOf xs (k + 1) = xs.getD k 0 := by simp [prevOf]

theorem wf_take {zs : List Int} (n : Nat) (hw : ∀ m ∈ zs, (Lit.int .u64 m).wf = true) (j : Nat) : 0 ≤ (zs.take n).getD j 0 ∧ (zs.take n).getD j 0 < 18446744073709551616 := by
  have := range_u64 (zs := zs.take n) (fun m hm => hw m (List.mem_of_mem_take hm)) j
  rw [List.getD]
  omega

theorem sum_step {zs : List Int} (n k : Nat) (hw : ∀ m ∈ zs, (Lit.int .u64 m).wf = true) :
    IntKind.u64.wrap (prevOf (zs.take n) k + gapOf (zs.take n) k) = (zs.take n).getD k 0 := by
  have := wf_take n hw k
  exact wrap_u64_back _ _ this.1 this.2

end Go.Proofs.Qxb6609219a
