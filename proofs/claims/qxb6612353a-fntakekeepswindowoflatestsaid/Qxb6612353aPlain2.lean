/-
  PLAIN: inserting into a sorted list at its place; the figures of one outcome more.
-/
import Derived.Test.Qxb6612353aPlain
namespace Go.Proofs.Qxb6612353a
open Go.RowKit

/-- x laid at place j -/
def insAt (ys : List Int) (j : Nat) (x : Int) : List Int := ys.take j ++ x :: ys.drop j
theorem insAt_len (ys : List Int) (j : Nat) (x : Int) : (insAt ys j x).length = ys.length + 1 := by simp [insAt]; omega
theorem insAt_end (ys : List Int) (x : Int) : insAt ys ys.length x = ys ++ [x] := by simp [insAt]
theorem insAt_low (ys : List Int) (j t : Nat) (x : Int) (h : t < j) (hj : j ≤ ys.length) : (insAt ys j x).getD t 0 = ys.getD t 0 := by
  unfold insAt
  rw [List.getD_eq_getElem?_getD, List.getD_eq_getElem?_getD, List.getElem?_append_left (by simp; omega), List.getElem?_take, if_pos h]
theorem insAt_set (ys : List Int) (j : Nat) (x y : Int) (hj : j ≤ ys.length) : (insAt ys j x).set j y = insAt ys j y := by
  unfold insAt
  rw [List.set_append_right _ _ (by simp; omega)]
  simp [show j - min j ys.length = 0 by omega]
theorem insAt_down (ys : List Int) (j : Nat) (hj : j < ys.length) : insAt ys (j + 1) (ys.getD j 0) = insAt ys j (ys.getD j 0) := by
  unfold insAt
  have e : ys.getD j 0 = ys[j] := by simp [List.getD, hj]
  have h1 : ys.take (j + 1) = ys.take j ++ [ys[j]] := List.take_succ_eq_append_getElem hj
  have h2 : ys.drop j = ys[j] :: ys.drop (j + 1) := List.drop_eq_getElem_cons hj
  rw [e, h1, h2, List.append_assoc]
  rfl
theorem insAt_perm (ys : List Int) (j : Nat) (x : Int) : (insAt ys j x).Perm (x :: ys) := by
  unfold insAt
  have h := List.perm_middle (a := x) (l₁ := ys.take j) (l₂ := ys.drop j)
  rwa [List.take_append_drop] at h
theorem srt_at (ys : List Int) (h : Srt ys) (a b : Nat) (hab : a ≤ b) (hb : b < ys.length) : ys.getD a 0 ≤ ys.getD b 0 := by
  have ea : ys.getD a 0 = ys[a]'(by omega) := by simp [List.getD, show a < ys.length by omega]
  have eb : ys.getD b 0 = ys[b] := by simp [List.getD, hb]
  rw [ea, eb]
  by_cases e : a = b
  · subst e; omega
  · exact List.pairwise_iff_getElem.1 h a b (by omega) hb (by omega)
theorem insAt_srt (ys : List Int) (j : Nat) (x : Int) (h : Srt ys) (hj : j ≤ ys.length) (hl : ∀ t, t < j → ys.getD t 0 ≤ x) (hr : ∀ t, j ≤ t → t < ys.length → x ≤ ys.getD t 0) : Srt (insAt ys j x) := by
  unfold insAt Srt
  rw [List.pairwise_append]
  refine ⟨List.Pairwise.sublist (List.take_sublist _ _) h, List.pairwise_cons.2 ⟨fun z hz => ?_, List.Pairwise.sublist (List.drop_sublist _ _) h⟩, fun a ha b hb => ?_⟩
  · obtain ⟨i, hi, rfl⟩ := List.mem_iff_getElem.1 hz
    simp at hi
    have := hr (j + i) (by omega) (by omega)
    simpa [List.getD, show j + i < ys.length by omega] using this
  · obtain ⟨i, hi, rfl⟩ := List.mem_iff_getElem.1 ha
    simp at hi
    have h1 := hl i (by omega)
    have e1 : ys.getD i 0 = ys[i]'(by omega) := by simp [List.getD, show i < ys.length by omega]
    rw [List.getElem_take]
    rw [e1] at h1
    rcases List.mem_cons.1 hb with rfl | hb
    · exact h1
    · obtain ⟨k, hk, rfl⟩ := List.mem_iff_getElem.1 hb
      simp at hk
      have h2 := hr (j + k) (by omega) (by omega)
      have e2 : ys.getD (j + k) 0 = ys[j + k]'(by omega) := by simp [List.getD, show j + k < ys.length by omega]
      rw [e2] at h2
      rw [List.getElem_drop]
      omega

theorem ansL_snoc0 (rs : List O) (o : O) (h : o.1 = 0) : ansL (rs ++ [o]) = ansL rs := by simp [ansL, h]
theorem ansL_snoc1 (rs : List O) (o : O) (h : o.1 ≠ 0) : ansL (rs ++ [o]) = ansL rs ++ [o.2.2] := by simp [ansL, h]
theorem perm_snoc {ys zs l : List Int} {x : Int} (h : zs.Perm (x :: ys)) (hy : ys.Perm l) : zs.Perm (l ++ [x]) :=
  h.trans ((List.Perm.cons x hy).trans (List.perm_append_singleton x l).symm)
end Go.Proofs.Qxb6612353a
