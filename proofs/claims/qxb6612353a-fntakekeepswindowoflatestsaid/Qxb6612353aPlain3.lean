/-
  PLAIN: one outcome out of the figures; one in place of another; the window read round.
-/
import Derived.Test.Qxb6612353aShape
import Derived.Test.Qxb6612353aRepl
namespace Go.Proofs.Qxb6612353a
open Go.RowKit
set_option linter.unusedVariables false

theorem er_perm (xs : List Int) (i : Nat) (h : i < xs.length) : xs.Perm (xs.getD i 0 :: er xs i) := by
  have e : xs.getD i 0 = xs[i] := by simp [List.getD, h]
  have h2 : xs = xs.take i ++ xs[i] :: xs.drop (i + 1) := by
    rw [← List.drop_eq_getElem_cons h, List.take_append_drop]
  rw [e]
  unfold er
  have h3 : (xs.take i ++ xs[i] :: xs.drop (i + 1)).Perm (xs[i] :: (xs.take i ++ xs.drop (i + 1))) := List.perm_middle
  rwa [← h2] at h3
theorem er_srt (xs : List Int) (i : Nat) (h : Srt xs) : Srt (er xs i) := by
  have hs : (er xs i).Sublist xs := by
    have h2 : (xs.take i ++ xs.drop (i + 1)).Sublist (xs.take i ++ xs.drop i) := List.Sublist.append (List.Sublist.refl _) (by
      rw [show i + 1 = 1 + i by omega, ← List.drop_drop]
      have := List.drop_sublist 1 (xs.drop i)
      rwa [List.drop_drop, Nat.add_comm i 1, ← List.drop_drop] at this)
    rwa [List.take_append_drop] at h2
  exact List.Pairwise.sublist hs h

/-- what evict makes of the latencies, and of the sum -/
def ansOut (s l : Int) (xs : List Int) : List Int := if s = 0 then xs else er xs (lowB xs l)
def sumOut (s l sum : Int) : Int := if s = 0 then sum else wrap64 (sum - l)
theorem fig_mem {xs : List Int} {sum f t l : Int} {rest rs : List O} (s : Int) (tt : Bool) (ll : Int) (hp : rs.Perm ((s, tt, ll) :: rest)) (h : figB xs sum f t l rs = true) (h0 : s ≠ 0) : ll ∈ xs := by
  obtain ⟨h1, _⟩ := fig_true h
  have hP := ansL_perm hp
  rw [ansL_cons, if_neg (show ¬ ((s, tt, ll) : O).1 = 0 from h0)] at hP
  rw [h1, (srt_perm _).mem_iff, hP.mem_iff]
  exact List.mem_cons_self ..
theorem evict_law {xs : List Int} {sum f t l : Int} {rest rs : List O} (s : Int) (tt : Bool) (ll : Int) (hp : rs.Perm ((s, tt, ll) :: rest)) (h : figB xs sum f t l rs = true) :
    figB (ansOut s ll xs) (sumOut s ll sum) (dn (failB s) f) (dn tt t) (dn (s == 429) l) rest = true := by
  obtain ⟨h1, h2, h3, h4, h5⟩ := fig_true h
  have hP := ansL_perm hp
  rw [ansL_cons] at hP
  have hsr : Srt xs := by rw [h1]; exact srt_srt _
  have hxp : xs.Perm (ansL rs) := by rw [h1]; exact srt_perm _
  have e1 : ansOut s ll xs = srt (ansL rest) := by
    unfold ansOut
    by_cases h0 : s = 0
    · rw [if_pos h0]
      rw [if_pos (show ((s, tt, ll) : O).1 = 0 from h0)] at hP
      rw [h1]; exact srt_congr hP
    · have hm := fig_mem s tt ll hp h h0
      rw [if_neg h0]
      rw [if_neg (show ¬ ((s, tt, ll) : O).1 = 0 from h0)] at hP
      obtain ⟨m1, m2⟩ := low_mem xs ll hsr hm
      have hq := er_perm xs (lowB xs ll) m1
      rw [m2] at hq
      exact srt_eq (er_srt xs _ hsr) ((List.perm_cons ll).1 (hq.symm.trans (hxp.trans hP)))
  refine fig_mk e1 ?_ ?_ ?_ ?_
  · rw [← e1]
    unfold sumOut ansOut
    by_cases h0 : s = 0
    · rw [if_pos h0, if_pos h0, h2, h1]
    · have hm := fig_mem s tt ll hp h h0
      obtain ⟨m1, m2⟩ := low_mem xs ll hsr hm
      have hq := er_perm xs (lowB xs ll) m1
      rw [m2] at hq
      have hw := wsum_perm hq
      rw [wsum_cons] at hw
      have hz := wsum_wrap (er xs (lowB xs ll))
      rw [if_neg h0, if_neg h0, h2, ← h1, hw]
      generalize wsum (er xs (lowB xs ll)) = a at hz
      unfold wrap64 at *; omega
  · unfold nFail at h3 ⊢
    rw [hp.countP_eq, List.countP_cons] at h3
    rw [h3]
    cases failB s <;> simp [dn]
  · unfold nTime at h4 ⊢
    rw [hp.countP_eq, List.countP_cons] at h4
    rw [h4]
    cases tt <;> simp [dn]
  · unfold nLim at h5 ⊢
    rw [hp.countP_eq, List.countP_cons] at h5
    rw [h5]
    cases hb : s == 429 <;> simp_all [dn]

/-- an answered one in place of another -/
theorem replace_law {xs ys : List Int} {sum f t l : Int} {rest rs rs' : List O} (s : Int) (tt : Bool) (ll : Int) (s' : Int) (tt' : Bool) (ll' : Int) (hp : rs.Perm ((s, tt, ll) :: rest)) (hp' : rs'.Perm ((s', tt', ll') :: rest))
    (h : figB xs sum f t l rs = true) (h0 : s ≠ 0) (h0' : s' ≠ 0) (hs : Srt ys) (hy : ys.Perm (ll' :: er xs (lowB xs ll))) :
    figB ys (wrap64 (sum + wrap64 (ll' - ll))) (up (failB s') (dn (failB s) f)) (up tt' (dn tt t)) (up (s' == 429) (dn (s == 429) l)) rs' = true := by
  have h1 := evict_law s tt ll hp h
  have h2 := admit_law s' tt' ll' hp' h1
  have hx : Srt xs := by rw [(fig_true h).1]; exact srt_srt _
  have e1 : ansIn s' ll' (ansOut s ll xs) = ys := by
    unfold ansIn ansOut
    rw [if_neg h0', if_neg h0]
    exact srt_unique (ins_low_srt _ _ (er_srt xs _ hx)) hs ((insAt_perm _ _ _).trans hy.symm)
  have e2 : sumIn s' ll' (sumOut s ll sum) = wrap64 (sum + wrap64 (ll' - ll)) := by
    unfold sumIn sumOut
    rw [if_neg h0', if_neg h0]
    unfold wrap64; omega
  rw [e1, e2] at h2
  exact h2

theorem fig_perm {xs : List Int} {sum f t l : Int} {rs rs' : List O} (hp : rs.Perm rs') (h : figB xs sum f t l rs = true) : figB xs sum f t l rs' = true := by
  obtain ⟨h1, h2, h3, h4, h5⟩ := fig_true h
  have e := srt_congr (ansL_perm hp)
  exact fig_mk (h1.trans e) (by rw [h2, e]) (by rw [h3]; unfold nFail; rw [hp.countP_eq]) (by rw [h4]; unfold nTime; rw [hp.countP_eq]) (by rw [h5]; unfold nLim; rw [hp.countP_eq])
theorem fig_bounds {xs : List Int} {sum f t l : Int} {rs : List O} {n : Nat} (h : figB xs sum f t l rs = true) (hn : rs.length = n) : (0 ≤ f ∧ f ≤ n) ∧ (0 ≤ t ∧ t ≤ n) ∧ (0 ≤ l ∧ l ≤ n) := by
  obtain ⟨h1, h2, h3, h4, h5⟩ := fig_true h
  have a1 : nFail rs ≤ rs.length := List.countP_le_length
  have a2 : nTime rs ≤ rs.length := List.countP_le_length
  have a3 : nLim rs ≤ rs.length := List.countP_le_length
  omega
theorem ansL_len (rs : List O) : (ansL rs).length ≤ rs.length := by unfold ansL; rw [List.length_map]; exact List.length_filter_le _ _
theorem fig_len {xs : List Int} {sum f t l : Int} {rs : List O} (h : figB xs sum f t l rs = true) : xs.length ≤ rs.length := by
  rw [(fig_true h).1, (srt_perm _).length_eq]; exact ansL_len rs
theorem fig_srt {xs : List Int} {sum f t l : Int} {rs : List O} (h : figB xs sum f t l rs = true) : Srt xs := by rw [(fig_true h).1]; exact srt_srt _

theorem set_perm : ∀ (rs : List O) (p : Nat) (o : O), p < rs.length → (rs.set p o).Perm (o :: rs.eraseIdx p)
  | [], p, o, h => by simp at h
  | a :: r, 0, o, _ => by simp
  | a :: r, p + 1, o, h => by
    have ih := set_perm r p o (by simpa using h)
    simp only [List.set_cons_succ, List.eraseIdx_cons_succ]
    exact (ih.cons a).trans (List.Perm.swap o a _)
theorem get_perm (rs : List O) (p : Nat) (h : p < rs.length) : rs.Perm (rs.getD p o0 :: rs.eraseIdx p) := by
  have e : rs.getD p o0 = rs[p] := by simp [List.getD, h]
  rw [e]; exact (erase_perm rs p h).symm

/-- the place of one more: sorted -/
theorem repl_srt (xs : List Int) (fr T to : Nat) (v : Int) (hs : Srt xs) (hfr : fr < xs.length) (hT : lowB xs v = T) (hto : (fr < T ∧ T = to + 1) ∨ (T ≤ fr ∧ T = to)) : Srt (insAt (er xs fr) to v) := by
  obtain ⟨q1, q2, q3⟩ := low_spec xs v hs
  rw [hT] at q1 q2 q3
  have le := er_len xs fr hfr
  refine insAt_srt _ _ _ (er_srt xs fr hs) (by omega) (fun t ht => ?_) (fun t h1 h2 => ?_)
  · rw [er_getD _ _ _ hfr]
    split
    · exact Int.le_of_lt (q2 t (by omega))
    · exact Int.le_of_lt (q2 (t + 1) (by omega))
  · rw [le] at h2
    rw [er_getD _ _ _ hfr]
    split
    · exact q3 t (by omega) (by omega)
    · exact q3 (t + 1) (by omega) (by omega)

/-- the outcomes from the oldest on, and the new one -/
def chronL (rs : List O) (p : Nat) (o : O) : List O := rs.drop p ++ rs.take p ++ [o]
theorem chron_len (rs : List O) (p : Nat) (o : O) (h : p ≤ rs.length) : (chronL rs p o).length = rs.length + 1 := by simp [chronL]; omega
theorem chron_zero (rs : List O) (o : O) : chronL rs 0 o = rs ++ [o] := by simp [chronL]
theorem chron_perm (rs : List O) (p : Nat) (o : O) (h : p < rs.length) : (rs.set p o).Perm ((chronL rs p o).drop 1) := by
  have e : (chronL rs p o).drop 1 = rs.drop (p + 1) ++ rs.take p ++ [o] := by
    unfold chronL
    rw [List.drop_eq_getElem_cons h]
    rfl
  rw [e, List.set_eq_take_append_cons_drop, if_pos h]
  have h1 : (rs.take p ++ o :: rs.drop (p + 1)).Perm (o :: (rs.take p ++ rs.drop (p + 1))) := List.perm_middle
  have h2 : (rs.drop (p + 1) ++ rs.take p ++ [o]).Perm (o :: (rs.drop (p + 1) ++ rs.take p)) := List.perm_append_singleton _ _
  exact h1.trans ((List.Perm.cons o List.perm_append_comm).trans h2.symm)
theorem getDO_app (a b : List O) (j : Nat) : (a ++ b).getD j o0 = if j < a.length then a.getD j o0 else b.getD (j - a.length) o0 := by
  simp only [List.getD_eq_getElem?_getD, List.getElem?_append]
  split <;> rfl
theorem getDO_drop (a : List O) (k j : Nat) : (a.drop k).getD j o0 = a.getD (k + j) o0 := by simp [List.getD_eq_getElem?_getD]
theorem getDO_take (a : List O) (k j : Nat) (h : j < k) : (a.take k).getD j o0 = a.getD j o0 := by simp [List.getD_eq_getElem?_getD, h]
theorem chron_at (rs : List O) (p : Nat) (o : O) (h : rs.length = 1000) (hp : p < 1000) (q : Nat) (hq : q = if p + 1 = 1000 then 0 else p + 1) (j : Nat) (hj : j < 1000) :
    (rs.set p o).getD ((q + j) % 1000) o0 = ((chronL rs p o).drop 1).getD j o0 := by
  have l1 : (rs.drop p).length = 1000 - p := by simp [h]
  have l2 : (rs.take p).length = p := by simp [h]; omega
  rw [getDO_drop]
  unfold chronL
  rw [getDO_app, getDO_app, getDO_drop]
  simp only [List.length_append, l1, l2]
  have hset : ∀ k, (rs.set p o).getD k o0 = if k = p then o else rs.getD k o0 := by
    intro k
    simp only [List.getD_eq_getElem?_getD, List.getElem?_set]
    by_cases e : p = k
    · subst e; simp [h, hp]
    · simp [e, show ¬ k = p from fun h => e h.symm]
  rw [hset]
  have hk : (q + j) % 1000 = if p + 1 + j < 1000 then p + 1 + j else p + 1 + j - 1000 := by
    rw [hq]; split <;> split <;> omega
  rw [hk]
  by_cases c1 : p + 1 + j < 1000
  · rw [if_pos c1, if_neg (by omega), if_pos (by omega), if_pos (by omega)]; congr 1; omega
  · rw [if_neg c1]
    by_cases c2 : j = 999
    · subst c2
      rw [if_pos (by omega), if_neg (by omega)]
      have : 1 + 999 - (1000 - p + p) = 0 := by omega
      rw [this]; rfl
    · have e : p + 1 + j - 1000 = 1 + j - (1000 - p) := by omega
      rw [if_neg (by omega), if_pos (by omega), if_neg (by omega), getDO_take _ _ _ (by omega), e]
theorem chron_at0 (rs : List O) (o : O) (n : Nat) (h : rs.length = n) (j : Nat) (hj : j < n + 1) : (rs ++ [o]).getD ((0 + j) % (n + 1)) o0 = (chronL rs 0 o).getD j o0 := by
  rw [chron_zero, Nat.zero_add, Nat.mod_eq_of_lt hj]
end Go.Proofs.Qxb6612353a
