/-
  ROWS OF NUMBERS THAT MAY BE WRITTEN; 'slices.Delete'.
-/
import Derived.Test.Qxb6612353aAdmit
import Derived.Deep.RegionLaw
import Derived.Lib.SliceRun
namespace Go.Proofs.Qxb6612353a
open Go.RowKit
set_option linter.unusedVariables false

/-- from this place on lie the numbers xs, and they may be written -/
def IntsW (w : World) (b off : Nat) (xs : List Int) : Prop := ∀ j, j < xs.length → w.cell? ⟨b, off + j, none⟩ = some (.int .i64 (xs.getD j 0)) ∧ w.frozen? ⟨b, off + j, none⟩ = false
theorem IntsW.ints {w : World} {b off : Nat} {xs : List Int} (h : IntsW w b off xs) : IntsAt w b off xs := fun j hj => (h j hj).1
theorem IntsW.keep {w w' : World} {b off : Nat} {xs : List Int} (h : IntsW w b off xs) (hl : Later w w') : IntsW w' b off xs := fun j hj => ⟨hl.cell (h j hj).1, hl.frozen (h j hj).1 (h j hj).2⟩
theorem Save.frozen {B : Nat} {w w' : World} (h : Save B w w') {a : Addr} {v : Value} (ha : a.block ≠ B) (hc : w.cell? a = some v) (hf : w.frozen? a = false) : w'.frozen? a = false := by
  have hb := h.block a.block (World.block_lt_of_cell? w _ hc) ha
  have : w'.frozen? a = w.frozen? a := World.frozen?_of_block hb
  rw [this]; exact hf
theorem IntsW.save {B : Nat} {w w' : World} {b off : Nat} {xs : List Int} (h : IntsW w b off xs) (hs : Save B w w') (hb : b ≠ B) : IntsW w' b off xs := fun j hj => ⟨hs.cell hb (h j hj).1, hs.frozen hb (h j hj).1 (h j hj).2⟩
theorem Save.setCells {A : Nat} {a : World} : ∀ (vs : List Value) (o : Nat) (w : World), Save A a w → Save A a (w.setCells A o vs)
  | [], _, _, h => h
  | v :: r, o, w, h => Save.setCells r (o + 1) _ (h.setCell o v)

theorem getD_app (a b : List Int) (j : Nat) : (a ++ b).getD j 0 = if j < a.length then a.getD j 0 else b.getD (j - a.length) 0 := by
  simp only [List.getD_eq_getElem?_getD, List.getElem?_append]
  split <;> rfl
theorem getD_drop (a : List Int) (k j : Nat) : (a.drop k).getD j 0 = a.getD (k + j) 0 := by simp [List.getD_eq_getElem?_getD]
theorem getD_take (a : List Int) (k j : Nat) (h : j < k) : (a.take k).getD j 0 = a.getD j 0 := by simp [List.getD_eq_getElem?_getD, h]

/-- numbers stored one behind the other -/
theorem IntsW.lay {w : World} {b off : Nat} {xs : List Int} (h : IntsW w b off xs) (o : Nat) (vs : List Int) (ho : o + vs.length ≤ xs.length) :
    IntsW (w.setCells b (off + o) (vs.map (Value.int .i64))) b off (xs.take o ++ vs ++ xs.drop (o + vs.length)) := by
  intro j hj
  have hj' : j < xs.length := by simp at hj; omega
  refine ⟨?_, by rw [World.frozen?_setCells]; exact (h j hj').2⟩
  have l1 : (xs.take o).length = o := by simp; omega
  rw [getD_app, getD_app]
  simp only [List.length_append, l1]
  by_cases c1 : j < o
  · rw [if_pos (by omega), if_pos c1, getD_take _ _ _ c1, World.cell?_setCells_out _ _ _ _ _ (fun _ _ => .inl (by show off + j < off + o; omega))]
    exact (h j hj').1
  · by_cases c2 : j < o + vs.length
    · rw [if_pos c2, if_neg c1]
      have := World.cell?_setCells_in b (vs.map (Value.int .i64)) (off + o) w (fun i hi => by
        have hi' : i < vs.length := by simpa using hi
        rw [Nat.add_assoc, (h (o + i) (by omega)).1]; rfl) (j - o) (by simp; omega)
      rw [show off + o + (j - o) = off + j by omega] at this
      rw [this]
      simp [List.getD, show j - o < vs.length by omega]
    · rw [if_neg c2, getD_drop, World.cell?_setCells_out _ _ _ _ _ (fun _ _ => .inr (by show off + o + (vs.map (Value.int .i64)).length ≤ off + j; simp; omega)), show o + vs.length + (j - (o + vs.length)) = j by omega]
      exact (h j hj').1

set_option maxHeartbeats 4000000 in
set_option maxRecDepth 100000 in
theorem delete_any (blk off n i j : Nat) (xs : List Int) (w : World) (hn : xs.length = n) (hle : n ≤ 1001) (hij : i < j) (hj : j ≤ n) (hH : IntsW w blk off xs) :
    Calls Try.prog 41 #[.slice (some ⟨blk, off, none⟩) n n, .int .i64 i, .int .i64 j] w fun e w' => e = .returned (.slice (some ⟨blk, off, none⟩) (i + (n - j)) n) ∧ IntsAt w' blk off (xs.take i ++ xs.drop j) ∧ Save blk w w' := by
  obtain ⟨i0, hi0, hz0, hz1, hz2⟩ := info_parts Try.info34
  obtain ⟨news, hnews⟩ : ∃ news, news = (xs.drop j).map (Value.int .i64) := ⟨_, rfl⟩
  have hlen : news.length = n - j := by rw [hnews]; simp [hn]
  obtain ⟨A, hA, hsrc⟩ : ∃ A : Addr, (if n = j then some (⟨blk, off, none⟩ : Addr) else some ⟨blk, off + j, none⟩) = some A ∧ Hid (∀ t u, news[t]? = some u → w.drew.cell? (A.add t) = some u) := by
    by_cases h : n = j
    · refine ⟨⟨blk, off, none⟩, by simp [h], fun t u hu => ?_⟩
      have h0 : news.length = 0 := by rw [hlen]; omega
      rw [List.length_eq_zero_iff.1 h0] at hu
      simp at hu
    · refine ⟨⟨blk, off + j, none⟩, by simp [h], fun t u hu => ?_⟩
      have ht : t < n - j := by
        have := (List.getElem?_eq_some_iff.1 hu).1
        rwa [hlen] at this
      have hjt : j + t < xs.length := by omega
      rw [hnews] at hu
      simp [hjt] at hu
      rw [Addr.add_lit, show off + j + t = off + (j + t) by omega]
      refine (hH (j + t) hjt).1.trans ?_
      simp [List.getD, hjt, hu]
  have s1 : Hid (news.length = (n - j) * 1) := by show _ = _; rw [Nat.mul_one]; exact hlen
  have s2 : Hid (∀ u ∈ news, u.oneCell' = true) := by
    intro u hu
    rw [hnews] at hu
    obtain ⟨x, _, rfl⟩ := List.mem_map.1 hu
    rfl
  have s3 : Hid (∀ t, t < news.length → (w.drew.cell? ⟨blk, off + i * 1 + t, none⟩).isSome = true ∧ w.drew.frozen? ⟨blk, off + i * 1 + t, none⟩ = false) := by
    intro t ht
    rw [hlen] at ht
    rw [Nat.mul_one, Nat.add_assoc]
    exact ⟨by show (w.cell? _).isSome = true; rw [(hH (i + t) (by omega)).1]; rfl, (hH (i + t) (by omega)).2⟩
  obtain ⟨W1, hW1⟩ : ∃ W1, W1 = w.drew.setCells blk (off + i * 1) news := ⟨_, rfl⟩
  have hld : (xs.drop j).length = n - j := by simp [hn]
  have hH1 : IntsW W1 blk off (xs.take i ++ xs.drop j ++ xs.drop (i + (n - j))) := by
    have h := (hH.keep ((Later.refl w).drew)).lay i (xs.drop j) (by rw [hld]; omega)
    rw [hld] at h
    rw [hW1, hnews, Nat.mul_one]; exact h
  have hL1 : (xs.take i ++ xs.drop j ++ xs.drop (i + (n - j))).length = n := by simp [hn]; omega
  have hS1 : Hid (Save blk w W1) := by
    show Save blk w W1
    rw [hW1]; exact Save.setCells _ _ _ ((Save.of_later (Later.refl w)).drew)
  have hcl : ∀ ty, (Builtin.clear_ #[52] ty #[.slice (some ⟨blk, off + (i + (n - j)), none⟩) (n - (i + (n - j))) (n - (i + (n - j)))]).run Try.prog W1 = .ok (.tuple #[]) (W1.setCells blk (off + (i + (n - j))) (List.replicate (n - (i + (n - j))) (Value.int .i64 0))) :=
    fun ty => Lib.run_clear_slice W1 52 34 ty (.int .i64 0) Try.underlying52 (by intro w; simp [go_sem]) rfl rfl blk (off + (i + (n - j))) _ _ (by omega) (fun t ht => by rw [show off + (i + (n - j)) + t = off + (i + (n - j) + t) by omega, (hH1 _ (by rw [hL1]; omega)).1]; rfl) (fun t ht => by rw [show off + (i + (n - j)) + t = off + (i + (n - j) + t) by omega]; exact (hH1 _ (by rw [hL1]; omega)).2)
  have hW : Hid (W1 = w.drew.setCells blk (off + i * 1) news) := hW1
  have HF : Hid (IntsAt (W1.setCells blk (off + (i + (n - j))) (List.replicate (n - (i + (n - j))) (Value.int .i64 0))) blk off (xs.take i ++ xs.drop j)) := by
    intro k hk
    have hk' : k < i + (n - j) := by simp [hn] at hk; omega
    rw [World.cell?_setCells_out _ _ _ _ _ (fun _ _ => .inl (by show off + k < off + (i + (n - j)); omega)), (hH1 k (by rw [hL1]; omega)).1, getD_app (xs.take i ++ xs.drop j), if_pos hk]
  have HS : Hid (Save blk w (W1.setCells blk (off + (i + (n - j))) (List.replicate (n - (i + (n - j))) (Value.int .i64 0)))) := Save.setCells _ _ _ hS1.out
  have hic : i ≤ n := by omega
  have hne : ¬ (i = j) := by omega
  clear hW1 hH1 hH hnews hlen hn hld hL1 hS1
  go_enter Try.func41, Try.ntmps41
  go_wp2_with fail
  go_region_law (refine step_append_room rfl (.tmp 22) (.tmp 25) 52 rfl 34 i0 1 Try.underlying52 hi0 hz1 blk off i n (by simp [Act.eval, Act.put]) A (n - j) (n - j) news (by simp [Act.eval, Act.put]) s1.out hsrc.out s2.out (by omega) s3.out ?_; rw [← hW.out])
  go_wp2
  go_ret
  exact ⟨rfl, HF.out, HS.out⟩
end Go.Proofs.Qxb6612353a
