/-
  'windowShape', 'latestIndex', and the plain law of admit.
-/
import Derived.Test.Qxb6612353aWin
namespace Go.Proofs.Qxb6612353a
open Go.RowKit
set_option linter.unusedVariables false

def shapeB (cnt : Int) (n : Nat) (nxt : Int) : Bool := if n < 1000 then (cnt == (n : Int) && nxt == 0) else (decide (1000 ≤ cnt) && nxt == cnt.tmod 1000)

set_option maxRecDepth 100000 in
theorem shape_any (cnt : Int) (n : Nat) (nxt : Int) (w : World) (hle : n ≤ 1000) (hc : cnt ≤ 9223372036854775807) :
    Calls Try.prog 7 #[.int .i64 cnt, .int .i64 n, .int .i64 nxt] w fun e w' => e = .returned (.bool (shapeB cnt n nxt)) ∧ w' = w := by
  by_cases hn : n < 1000
  · have HE : Hid (shapeB cnt n nxt = (cnt == (n : Int) && nxt == 0)) := by show _ = _; unfold shapeB; rw [if_pos hn]
    cases e1 : (cnt == (n : Int))
    · go_enter Try.func7, Try.ntmps7
      go_wp2
      go_ret
      exact ⟨ret_bool (by rw [HE.out, e1]; rfl), rfl⟩
    · go_enter Try.func7, Try.ntmps7
      go_wp2
      go_ret
      exact ⟨ret_bool (by rw [HE.out, e1]; rfl), rfl⟩
  · have HE : Hid (shapeB cnt n nxt = (decide (1000 ≤ cnt) && nxt == cnt.tmod 1000)) := by show _ = _; unfold shapeB; rw [if_neg hn]
    by_cases h1 : 1000 ≤ cnt
    · have HM : Hid (cnt.tmod 1000 = cnt % 1000) := Int.tmod_eq_emod_of_nonneg (by omega)
      go_enter Try.func7, Try.ntmps7
      go_wp2
      go_ret
      exact ⟨ret_bool (by rw [HE.out, HM.out, decide_eq_true h1]; rfl), rfl⟩
    · have HE2 : Hid (shapeB cnt n nxt = false) := by show _ = _; rw [HE.out, decide_eq_false h1]; rfl
      go_enter Try.func7, Try.ntmps7
      go_wp2
      go_ret
      exact ⟨ret_bool HE2.out.symm, rfl⟩

/-- where the latest stands -/
def lastP (n : Nat) (nxt : Int) : Nat := if n < 1000 then n - 1 else ((nxt + 999) % 1000).toNat
theorem shape_next {cnt : Int} {n : Nat} {nxt : Int} (hle : n ≤ 1000) (h : shapeB cnt n nxt = true) : 0 ≤ nxt ∧ nxt < 1000 ∧ (n < 1000 → nxt = 0) := by
  unfold shapeB at h
  by_cases hn : n < 1000
  · rw [if_pos hn] at h
    simp at h
    omega
  · rw [if_neg hn] at h
    simp at h
    obtain ⟨h1, h2⟩ := h
    rw [Int.tmod_eq_emod_of_nonneg (by omega)] at h2
    omega
theorem lastP_lt {cnt : Int} {n : Nat} {nxt : Int} (hle : n ≤ 1000) (h0 : 0 < n) (h : shapeB cnt n nxt = true) : lastP n nxt < n := by
  have := shape_next hle h
  unfold lastP
  split <;> omega

set_option maxRecDepth 100000 in
theorem latest_any (n : Nat) (nxt : Int) (w : World) (hle : n ≤ 1000) (h0 : 0 < n) (h1 : 0 ≤ nxt) (h2 : nxt < 1000) :
    Calls Try.prog 26 #[.int .i64 n, .int .i64 nxt] w fun e w' => e = .returned (.int .i64 (lastP n nxt : Nat)) ∧ w' = w := by
  by_cases hn : n < 1000
  · have HE : Hid (((lastP n nxt : Nat) : Int) = (n : Int) - 1) := by show _ = _; unfold lastP; rw [if_pos hn]; omega
    go_enter Try.func26, Try.ntmps26
    go_wp2
    go_ret
    exact ⟨ret_int (by rw [HE.out]), rfl⟩
  · have HE : Hid (((lastP n nxt : Nat) : Int) = (nxt + 1000 - 1) % 1000) := by show _ = _; unfold lastP; rw [if_neg hn]; omega
    go_enter Try.func26, Try.ntmps26
    go_wp2
    go_ret
    exact ⟨ret_int (by rw [HE.out]), rfl⟩

/-! ### the plain law of admit -/
theorem erase_perm : ∀ (rs : List O) (p : Nat) (h : p < rs.length), (rs[p] :: rs.eraseIdx p).Perm rs
  | [], p, h => by simp at h
  | o :: r, 0, _ => by simp
  | o :: r, p + 1, h => by
    have ih := erase_perm r p (by simpa using h)
    simp only [List.getElem_cons_succ, List.eraseIdx_cons_succ]
    exact (List.Perm.swap o _ _).trans (ih.cons o)
theorem wo_perm (rs : List O) (p n : Nat) (hn : rs.length = n) (hp : p < n) : rs.Perm (rs.getD p o0 :: wo rs p n) := by
  unfold wo
  rw [if_pos hp, List.take_of_length_le (by omega)]
  have e : rs.getD p o0 = rs[p]'(by omega) := by simp [List.getD, show p < rs.length by omega]
  rw [e]
  exact (erase_perm rs p (by omega)).symm

theorem fig_true {xs : List Int} {sum f t l : Int} {rs : List O} (h : figB xs sum f t l rs = true) : xs = srt (ansL rs) ∧ sum = wsum (srt (ansL rs)) ∧ f = nFail rs ∧ t = nTime rs ∧ l = nLim rs := by
  unfold figB at h
  simp only [Bool.and_eq_true, decide_eq_true_eq] at h
  exact h
theorem fig_mk {xs : List Int} {sum f t l : Int} {rs : List O} (h1 : xs = srt (ansL rs)) (h2 : sum = wsum (srt (ansL rs))) (h3 : f = nFail rs) (h4 : t = nTime rs) (h5 : l = nLim rs) : figB xs sum f t l rs = true := by
  unfold figB
  simp only [Bool.and_eq_true, decide_eq_true_eq]
  exact ⟨h1, h2, h3, h4, h5⟩

theorem ansL_perm {a b : List O} (h : a.Perm b) : (ansL a).Perm (ansL b) := (h.filter _).map _
theorem ansL_cons (o : O) (r : List O) : ansL (o :: r) = if o.1 = 0 then ansL r else o.2.2 :: ansL r := by
  unfold ansL
  by_cases h : o.1 = 0 <;> simp [h]

theorem admit_law {xs : List Int} {sum f t l : Int} {rest rs : List O} (s : Int) (tt : Bool) (ll : Int) (hp : rs.Perm ((s, tt, ll) :: rest)) (h : figB xs sum f t l rest = true) :
    figB (ansIn s ll xs) (sumIn s ll sum) (up (failB s) f) (up tt t) (up (s == 429) l) rs = true := by
  obtain ⟨h1, h2, h3, h4, h5⟩ := fig_true h
  have hP := ansL_perm hp
  rw [ansL_cons] at hP
  have hsr : Srt xs := by rw [h1]; exact srt_srt _
  have hxp : xs.Perm (ansL rest) := by rw [h1]; exact srt_perm _
  have e1 : ansIn s ll xs = srt (ansL rs) := by
    unfold ansIn
    by_cases h0 : s = 0
    · rw [if_pos h0]
      rw [if_pos (show ((s, tt, ll) : O).1 = 0 from h0)] at hP
      rw [h1]; exact (srt_congr hP).symm
    · rw [if_neg h0]
      rw [if_neg (show ¬ ((s, tt, ll) : O).1 = 0 from h0)] at hP
      exact srt_eq (ins_low_srt xs ll hsr) ((insAt_perm _ _ _).trans ((hxp.cons ll).trans hP.symm))
  refine fig_mk e1 ?_ ?_ ?_ ?_
  · rw [← e1]
    unfold sumIn ansIn
    by_cases h0 : s = 0
    · rw [if_pos h0, if_pos h0, h2, h1]
    · rw [if_neg h0, if_neg h0, wsum_perm (insAt_perm xs _ ll), wsum_cons, h2, h1, Int.add_comm]
  · unfold nFail at h3 ⊢
    rw [hp.countP_eq, List.countP_cons, h3]
    cases failB s <;> simp [up]
  · unfold nTime at h4 ⊢
    rw [hp.countP_eq, List.countP_cons, h4]
    cases tt <;> simp [up]
  · unfold nLim at h5 ⊢
    rw [hp.countP_eq, List.countP_cons, h5]
    cases hb : s == 429 <;> simp_all [up]
end Go.Proofs.Qxb6612353a
