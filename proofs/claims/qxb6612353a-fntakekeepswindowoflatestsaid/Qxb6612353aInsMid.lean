/-
  'slices.Insert' of one element into the middle of a []time.Duration without room.
-/
import Derived.Test.Qxb6612353aInsert
import Derived.Deep.RegionLaw
namespace Go.Proofs.Qxb6612353a
open Go.RowKit
set_option linter.unusedVariables false

theorem zero_cells (k : Nat) : (Builtin.zeroCells (Value.int .i64 0).cells k).size = k := by simp [Builtin.zeroCells, Value.cells]

set_option maxHeartbeats 4000000 in
set_option maxRecDepth 100000 in
theorem insert_mid (b off n i vb : Nat) (xs : List Int) (v : Int) (w : World) (hn : xs.length = n) (hle : n ≤ 1001) (hin : i < n) (hx : IntsAt w b off xs) (hv : w.cell? ⟨vb, 0, none⟩ = some (.int .i64 v)) :
    Calls Try.prog 40 #[.slice (some ⟨b, off, none⟩) n n, .int .i64 i, .slice (some ⟨vb, 0, none⟩) 1 1] w fun e w' => ∃ g cap', e = .returned (.slice (some ⟨g, 0, none⟩) (n + 1) cap') ∧ w.heap.size ≤ g ∧ g < w'.heap.size ∧ IntsAt w' g 0 (insAt xs i v) ∧ Later w w' := by
  obtain ⟨i0, hi0, hz0, hzs, hzb⟩ := info_parts Try.info34
  have hbw : b < w.heap.size := World.block_lt_of_cell? w _ (hx 0 (by omega))
  have hvw : vb < w.heap.size := World.block_lt_of_cell? w _ hv
  have hold : (Builtin.firstCells i0.size i (.slice (some ⟨b, off, none⟩) i n)).run Try.prog w.drew = .ok ((xs.take i).map (Value.int .i64)).toArray w.drew := by
    rw [hzs]
    exact run_firstCells_some w.drew 1 i ⟨b, off, none⟩ i n ((xs.take i).map (Value.int .i64)) (by simp; omega) (fun j u hj => by
      have hj2 : j < i := by have := (List.getElem?_eq_some_iff.1 hj).1; simp at this; omega
      have hj3 : j < xs.length := by omega
      have := hx j hj3
      simp [hj2, hj3] at hj
      rw [Addr.add_lit]
      show w.cell? _ = _
      rw [this]
      simp [List.getD, hj3, hj])
  have hkk : (n : Int) + 1 - (i : Int) = ((n + 1 - i : Nat) : Int) := by omega
  have hik : i + (n + 1 - i) = n + 1 := by omega
  have hrz : ∀ ty, (Builtin.append_ #[52, 3] ty #[.slice (some ⟨b, off, none⟩) i n, .int .i64 ((n : Int) + 1 - (i : Int))]).run Try.prog w =
      .ok (.slice (some ⟨w.heap.size, 0, none⟩) (n + 1) (grownCap w (n + 1) n 34)) (w.drew.alloc (.cells (((xs.take i).map (Value.int .i64)).toArray ++ Builtin.zeroCells (Value.int .i64 0).cells (n + 1 - i) ++ Builtin.zeroCells (Value.int .i64 0).cells (grownCap w (n + 1) n 34 - (n + 1))) 34)) := fun ty => by
    have h := Lib.run_append_grow_zeros w 52 3 ty 34 i0 _ .i64 .i64 Try.underlying52 Try.underlying3 hi0 hz0 (some ⟨b, off, none⟩) i n _ hold (n + 1 - i) (by omega) (by omega) (by omega) (by omega) (by rw [hzb]; omega) (by rw [hzb, hik]; exact growslice_fits (by omega) (by omega))
    rw [hik] at h
    rw [hkk]
    exact h
  obtain ⟨G, hG⟩ : ∃ G, G = grownCap w (n + 1) n 34 := ⟨_, rfl⟩
  obtain ⟨ROW, hROW⟩ : ∃ ROW : Array Value, ROW = ((xs.take i).map (Value.int .i64)).toArray ++ Builtin.zeroCells (Value.int .i64 0).cells (n + 1 - i) ++ Builtin.zeroCells (Value.int .i64 0).cells (G - (n + 1)) := ⟨_, rfl⟩
  rw [← hG] at hrz
  rw [← hROW] at hrz
  have hGn : n + 1 ≤ G := by rw [hG]; exact grownCap_ge w _ _ _
  have hG63 : G ≤ 9223372036854775807 := by
    have := grownCap_le_maxLen w (n + 1) n 34 (by unfold maxLen; omega)
    rw [← hG] at this
    unfold maxLen at this
    omega
  have HRl : Hid (n + 1 ≤ ROW.toList.length) := by
    show _ ≤ _
    rw [Array.length_toList, hROW]
    simp [zero_cells]
    omega
  obtain ⟨Z, hZ⟩ := splice_two xs i n v ROW.toList ((Builtin.zeroCells (Value.int .i64 0).cells (n + 1 - i)).toList ++ (Builtin.zeroCells (Value.int .i64 0).cells (G - (n + 1))).toList) hn hin (by rw [hROW]; simp) (by simp [zero_cells])
  have HZ : Hid (splice (splice ROW.toList i [.int .i64 v]) (i + 1) ((xs.drop i).map (Value.int .i64)) = (insAt xs i v).map (Value.int .i64) ++ Z) := hZ
  obtain ⟨CS, hCS⟩ : ∃ CS, CS = (xs.drop i).map (Value.int .i64) := ⟨_, rfl⟩
  have HCS : Hid (CS = (xs.drop i).map (Value.int .i64)) := hCS
  have HCl : Hid (CS.length = n - i) := by show _ = _; rw [hCS]; simp [hn]
  have HC1 : Hid (∀ u ∈ CS, u.oneCell' = true) := by show ∀ u ∈ CS, _; rw [hCS]; exact ints_oneCell _ _
  have HSRC : Hid (∀ W : World, Below w.heap.size w W → ∀ j u, CS[j]? = some u → W.cell? ((⟨b, off + i, none⟩ : Addr).add j) = some u) := by
    intro W hW j u hj
    rw [hCS] at hj
    have hj2 : j < n - i := by have := (List.getElem?_eq_some_iff.1 hj).1; simp at this; omega
    have hj3 : i + j < xs.length := by omega
    have := hx (i + j) hj3
    simp [hj3] at hj
    rw [Addr.add_lit]
    refine (hW.cell (p := ⟨b, off + i + j, none⟩) hbw).trans ?_
    rw [Nat.add_assoc, this]
    simp [List.getD, hj3, hj]
  have HV : Hid (∀ W : World, Below w.heap.size w W → ∀ j u, ([.int .i64 v] : List Value)[j]? = some u → W.cell? ((⟨vb, 0, none⟩ : Addr).add j) = some u) := by
    intro W hW j u hj
    match j, hj with
    | 0, hj => simp at hj; subst hj; exact (hW.cell (p := ⟨vb, 0, none⟩) hvw).trans hv
  have hz2 : ((i : Int) == (n : Int)) = false := by simp; omega
  have hGi : ¬ (G = i) := by omega
  have hGim : ¬ (G = i + 1) := by omega
  have hci : ¬ (n = i) := by omega
  have HB0 : Hid (Below w.heap.size w ((w.alloc (.cells ROW 34)).drew)) := ((Below.refl _ _).alloc (Nat.le_refl _) _).drew
  have HR0 : Hid (((w.alloc (.cells ROW 34)).drew).heap[w.heap.size]? = some (.cells ROW.toList.toArray 34 (0, 0))) := by
    show (w.alloc (.cells ROW 34)).heap[w.heap.size]? = _
    rw [heap_alloc_new]
  clear hkk hik hold hROW hG hZ hCS hx hv hn
  go_enter Try.func40, Try.ntmps40
  go_wp2_with (first
    | (at_builtin; refine Lib.wpList_append_run _ rfl (.tmp 34) (.tmp 39) 52 3 rfl _ _ rfl rfl _ _ (hrz _) ?_)
    | (refine wpList_copy_splice rfl (.tmp 43) (.tmp 44) 52 52 rfl 34 Try.underlying52 (by kernel_rfl) _ _ _ _ _ _ rfl rfl w.heap.size i ROW.toList 34 HR0.out [.int .i64 v] (by simp only [List.length_singleton, Nat.min_def]; split <;> omega) (fun _ => ⟨by first | rfl | simp [hGi], ⟨vb, 0, none⟩, rfl, HV.out _ HB0.out⟩) (by have := HRl.out; simp only [List.length_singleton]; omega) (by intro u hu; simp at hu; subst hu; rfl) w.heap.size w HB0.out (Nat.le_refl _) ?_; intro w2 HG2 hB2))
  have HG2' : Hid (w2.drew.heap[w.heap.size]? = some (.cells (splice ROW.toList i [.int .i64 v]).toArray 34 (0, 0))) := HG2.out
  have HB2' : Hid (Below w.heap.size w w2.drew) := hB2.drew
  have HSL : Hid ((splice ROW.toList i [.int .i64 v]).length = ROW.toList.length) := length_splice _ _ _ (by have := HRl.out; simp only [List.length_singleton]; omega)
  have hw1 : IntKind.i64.wrap ((i : Int) + 1) = (i : Int) + 1 := by rw [IntKind.wrap_i64]; omega
  have hb1 : (0 : Int) ≤ (i : Int) + 1 := by omega
  have htn : ((i : Int) + 1).toNat = i + 1 := by omega
  have hb3 : (i : Int) ≤ (n : Int) := by omega
  clear HG2 hB2 hrz
  go_region_law (refine step_copy_splice rfl (.tmp 50) (.tmp 53) 52 52 rfl 34 Try.underlying52 (by kernel_rfl) (some ⟨w.heap.size, i + 1, none⟩) (some ⟨b, off + i, none⟩) (n + 1 - (i + 1)) (G - (i + 1)) (n - i) (n - i) (by simp [Act.eval, Act.put]) (by simp [Act.eval, Act.put]) w.heap.size (i + 1) (splice ROW.toList i [.int .i64 v]) 34 HG2'.out CS (by rw [HCl.out]; simp only [Nat.min_def]; split <;> omega) (fun _ => ⟨rfl, ⟨b, off + i, none⟩, rfl, HSRC.out _ HB2'.out⟩) (by rw [HCl.out, HSL.out]; have := HRl.out; omega) HC1.out w.heap.size w HB2'.out (Nat.le_refl _) ?_; intro w4 hg4 hb4)
  go_wp2
  go_ret
  refine ⟨w.heap.size, G, rfl, Nat.le_refl _, (Array.getElem?_eq_some_iff.1 hg4.out).1, ?_, hb4⟩
  have h := hg4.out
  rw [HCS.out, HZ.out] at h
  exact ints_of_row h
end Go.Proofs.Qxb6612353a
