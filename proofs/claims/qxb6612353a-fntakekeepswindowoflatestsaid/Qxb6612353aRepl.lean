/-
  'replace': one latency out, another in.
-/
import Derived.Test.Qxb6612353aEvict
namespace Go.Proofs.Qxb6612353a
open Go.RowKit
set_option linter.unusedVariables false

/-- place i struck -/
def er (xs : List Int) (i : Nat) : List Int := xs.take i ++ xs.drop (i + 1)
theorem er_len (xs : List Int) (i : Nat) (h : i < xs.length) : (er xs i).length = xs.length - 1 := by simp [er]; omega
theorem er_getD (xs : List Int) (i j : Nat) (h : i < xs.length) : (er xs i).getD j 0 = if j < i then xs.getD j 0 else xs.getD (j + 1) 0 := by
  unfold er
  rw [getD_app, getD_drop]
  have l1 : (xs.take i).length = i := by simp; omega
  rw [l1]
  split
  · rw [getD_take _ _ _ (by assumption)]
  · congr 1; omega
theorem insAt_getD (ys : List Int) (t j : Nat) (v : Int) (h : t ≤ ys.length) : (insAt ys t v).getD j 0 = if j < t then ys.getD j 0 else if j = t then v else ys.getD (j - 1) 0 := by
  unfold insAt
  have l1 : (ys.take t).length = t := by simp; omega
  rw [getD_app, l1]
  split
  · rw [getD_take _ _ _ (by assumption)]
  · split
    · rename_i h2; subst h2; simp
    · obtain ⟨k, rfl⟩ : ∃ k, j = t + 1 + k := ⟨j - (t + 1), by omega⟩
      rw [show t + 1 + k - t = k + 1 by omega, List.getD_cons_succ, getD_drop]
      congr 1; omega
theorem set_getD (ys : List Int) (t j : Nat) (v : Int) (h : t < ys.length) : (ys.set t v).getD j 0 = if j = t then v else ys.getD j 0 := by
  simp only [List.getD_eq_getElem?_getD, List.getElem?_set]
  by_cases e : t = j
  · subst e; simp [h]
  · simp [e, show ¬ j = t from fun h => e h.symm]
theorem move_down (xs : List Int) (fr t : Nat) (v : Int) (h1 : fr ≤ t) (h2 : t < xs.length) : (xs.take fr ++ (xs.drop (fr + 1)).take (t - fr) ++ xs.drop (fr + (t - fr))).set t v = insAt (er xs fr) t v := by
  have le : (er xs fr).length = xs.length - 1 := er_len xs fr (by omega)
  have lL : (xs.take fr ++ (xs.drop (fr + 1)).take (t - fr) ++ xs.drop (fr + (t - fr))).length = xs.length := by simp; omega
  refine ext_getD (by rw [List.length_set, lL, insAt_len, le]; omega) (fun j hj => ?_)
  rw [insAt_len, le] at hj
  rw [set_getD _ _ _ _ (by rw [lL]; exact h2), insAt_getD _ _ _ _ (by rw [le]; omega), er_getD _ _ _ (by omega), er_getD _ _ _ (by omega), getD_app, getD_app]
  have l1 : (xs.take fr).length = fr := by simp; omega
  have l2 : ((xs.drop (fr + 1)).take (t - fr)).length = t - fr := by simp; omega
  simp only [List.length_append, l1, l2]
  by_cases e : j = t
  · subst e; simp
  · rw [if_neg e]
    by_cases c : j < t
    · rw [if_pos (by omega), if_pos c]
      split
      · rw [getD_take _ _ _ (by assumption)]
      · rw [getD_take _ _ _ (by omega), getD_drop]; congr 1; omega
    · rw [if_neg (by omega), if_neg c, if_neg e, if_neg (by omega), getD_drop]; congr 1; omega
theorem move_up (xs : List Int) (fr t : Nat) (v : Int) (h1 : t ≤ fr) (h2 : fr < xs.length) : (xs.take (t + 1) ++ (xs.drop t).take (fr - t) ++ xs.drop (t + 1 + (fr - t))).set t v = insAt (er xs fr) t v := by
  have le : (er xs fr).length = xs.length - 1 := er_len xs fr (by omega)
  have lL : (xs.take (t + 1) ++ (xs.drop t).take (fr - t) ++ xs.drop (t + 1 + (fr - t))).length = xs.length := by simp; omega
  refine ext_getD (by rw [List.length_set, lL, insAt_len, le]; omega) (fun j hj => ?_)
  rw [insAt_len, le] at hj
  rw [set_getD _ _ _ _ (by rw [lL]; omega), insAt_getD _ _ _ _ (by rw [le]; omega), er_getD _ _ _ (by omega), er_getD _ _ _ (by omega), getD_app, getD_app]
  have l1 : (xs.take (t + 1)).length = t + 1 := by simp; omega
  have l2 : ((xs.drop t).take (fr - t)).length = fr - t := by simp; omega
  simp only [List.length_append, l1, l2]
  by_cases e : j = t
  · subst e; simp
  · rw [if_neg e]
    by_cases c : j < t
    · rw [if_pos (by omega), if_pos (by omega), if_pos c, if_pos (by omega), getD_take _ _ _ (by omega)]
    · rw [if_neg c, if_neg e]
      by_cases d : j < t + 1 + (fr - t)
      · rw [if_pos d, if_neg (by omega), if_pos (by omega), getD_take _ _ _ (by omega), getD_drop]; congr 1; omega
      · rw [if_neg d, if_neg (by omega), getD_drop]; congr 1; omega

theorem IntsW.set {w : World} {b off : Nat} {xs : List Int} (h : IntsW w b off xs) (t : Nat) (v : Int) (ht : t < xs.length) : IntsW (w.setCell ⟨b, off + t, none⟩ (.int .i64 v)) b off (xs.set t v) := by
  intro j hj
  rw [List.length_set] at hj
  refine ⟨?_, by rw [World.frozen?_setCell]; exact (h j hj).2⟩
  rw [set_getD _ _ _ _ ht]
  by_cases e : j = t
  · subst e; rw [if_pos rfl]; exact World.cell?_setCell_same _ _ _ (h j hj).1
  · have hne : (⟨b, off + t, none⟩ : Addr) ≠ ⟨b, off + j, none⟩ := fun hh => e (by injection hh; omega)
    rw [if_neg e]; exact (World.cell?_setCell_other _ _ _ _ hne).trans (h j hj).1

/-- copy inside one row of numbers, as one step of a region that draws its order -/
theorem step_copy_ints {ops : Array Oper} {o : Oper} {a : Act} {w : World} {K : Act → World → Prop} {Q : Exit → Act → World → Prop} {E : Prop} (hgd : o.guard = none) (d s : Operand)
    (ho : o.op = .call { callee := .builtin .copy, args := #[d, s], argTypes := #[52, 52] })
    (dp sp : Option Addr) (dLen dCap sLen sCap : Nat) (hd : a.eval d = .slice dp dLen dCap) (hs : a.eval s = .slice sp sLen sCap)
    (g o1 : Nat) (xs vs : List Int) (hx : IntsW w g 0 xs) (hn : vs.length = Nat.min sLen dLen)
    (hpos : 0 < vs.length → dp = some ⟨g, o1, none⟩ ∧ ∃ ad, sp = some ad ∧ ∀ j v, vs[j]? = some v → w.cell? (ad.add j) = some (.int .i64 v)) (hfit : o1 + vs.length ≤ xs.length)
    (h : ∀ w', Hid (IntsW w' g 0 (xs.take o1 ++ vs ++ xs.drop (o1 + vs.length))) → Save g w w' → K (a.put o.dst (goInt vs.length)) w') :
    if Region.wanted o (yielded ops a.tmps) = true then Oper.wp Try.prog o a w K Q else E := by
  have hw : Region.wanted o (yielded ops a.tmps) = true := by simp [Region.wanted, hgd]
  have hsz : (Try.prog.info? 34).map (·.size) = some 1 := by kernel_rfl
  rw [if_pos hw]
  by_cases h0 : vs.length = 0
  · obtain rfl : vs = [] := List.eq_nil_of_length_eq_zero h0
    have hrun := run_copy_none (P := Try.prog) w 52 52 o.type 34 dp sp dLen dCap sLen sCap Try.underlying52 hsz (by simpa using hn.symm)
    unfold Oper.wp
    simp [execOp, ho, resolve, invoke, builtin, hd, hs, hrun, Result.andThen]
    exact h w (show IntsW w g 0 _ by simpa using hx) (Save.of_later (Later.refl w))
  · obtain ⟨rfl, ad, rfl, hsrc⟩ := hpos (by omega)
    have hl := hx.lay o1 vs hfit
    rw [Nat.zero_add] at hl
    have hrun := run_copy_cells (P := Try.prog) w 52 52 o.type 34 g o1 dLen dCap ad sLen sCap (vs.map (Value.int .i64)) Try.underlying52 hsz (by simpa using hn)
      (fun j v hj => by
        simp only [List.getElem?_map, Option.map_eq_some_iff] at hj
        obtain ⟨u, hu, rfl⟩ := hj
        exact hsrc j u hu)
      (fun j hj => by
        have hj' : j < vs.length := by simpa using hj
        have := (hx (o1 + j) (by omega)).1
        rw [Nat.zero_add] at this
        rw [this]; rfl)
      (fun j hj => by
        have hj' : j < vs.length := by simpa using hj
        have := (hx (o1 + j) (by omega)).2
        rwa [Nat.zero_add] at this)
      (ints_oneCell _ _)
    unfold Oper.wp
    simp [execOp, ho, resolve, invoke, builtin, hd, hs, hrun, Result.andThen]
    exact h _ hl (Save.setCells _ _ _ (Save.of_later (Later.refl w)))

set_option maxHeartbeats 4000000 in
set_option maxRecDepth 100000 in
theorem replace_down (B A : Nat) (cnt : Int) (rec : Value) (nxt : Int) (n : Nat) (xs : List Int) (sum f t lm : Int) (old v : Int) (w : World) (fr to : Nat)
    (hW : Win w B cnt rec nxt (.slice (some ⟨A, 0, none⟩) n n) sum f t lm) (hx : IntsW w A 0 xs) (hn : xs.length = n) (hAB : A ≠ B) (hs : Srt xs) (hle : n ≤ 1000) (hfr : lowB xs old = fr) (hto : lowB xs v = to + 1) (hlt : fr ≤ to) (hton : to < n) :
    Calls Try.prog 38 #[.pointer (some ⟨B, 0, none⟩), .int .i64 old, .int .i64 v] w fun e w' => e = .returned (.tuple #[]) ∧ Save2 A B w w' ∧
      Win w' B cnt rec nxt (.slice (some ⟨A, 0, none⟩) n n) (wrap64 (sum + wrap64 (v - old))) f t lm ∧ IntsAt w' A 0 (insAt (er xs fr) to v) := by
  have HX : Hid (IntsW w A 0 xs) := hx
  have HN : Hid (xs.length = n) := hn
  have HW : Hid (Win w B cnt rec nxt (.slice (some ⟨A, 0, none⟩) n n) sum f t lm) := hW
  have hBA : B ≠ A := fun h => hAB h.symm
  have SE1 : Hid (Calls Try.prog 39 #[.slice (some ⟨A, 0, none⟩) n n, .int .i64 old] w fun e w' => e = .returned (.tuple #[.int .i64 fr, .bool (foundB xs old)]) ∧ w = w') := by
    have h := search_some A 0 n n xs old w hn (by omega) hx.ints hs
    rw [hfr] at h
    exact h.mono fun e w' h => ⟨h.1, h.2.symm⟩
  have SE2 : Hid (Calls Try.prog 39 #[.slice (some ⟨A, 0, none⟩) n n, .int .i64 v] w fun e w' => e = .returned (.tuple #[.int .i64 ((to : Int) + 1), .bool (foundB xs v)]) ∧ w = w') := by
    have h := search_some A 0 n n xs v w hn (by omega) hx.ints hs
    rw [hto] at h
    exact h.mono fun e w' h => ⟨h.1, h.2.symm⟩
  obtain ⟨vs, hvs⟩ : ∃ vs, vs = (xs.drop (fr + 1)).take (to - fr) := ⟨_, rfl⟩
  have hvl : vs.length = to - fr := by rw [hvs]; simp [hn]; omega
  have HVL : Hid (vs.length = to - fr) := hvl
  have HMV : Hid ((xs.take fr ++ vs ++ xs.drop (fr + vs.length)).set to v = insAt (er xs fr) to v) := by
    show _ = _
    rw [hvl, hvs]; exact move_down xs fr to v hlt (by omega)
  have HSRC : Hid (∀ j u, vs[j]? = some u → w.cell? ((⟨A, fr + 1, none⟩ : Addr).add j) = some (.int .i64 u)) := by
    intro j u hj
    have hjl : j < to - fr := by have := (List.getElem?_eq_some_iff.1 hj).1; omega
    rw [hvs, List.getElem?_take, if_pos hjl, List.getElem?_drop] at hj
    have hk : fr + 1 + j < xs.length := by omega
    have := (hx (fr + 1 + j) hk).1
    rw [Nat.zero_add] at this
    rw [Addr.add_lit, this]
    simp [hk] at hj
    simp [List.getD, hk, hj]
  obtain ⟨A1, hA1, HA1⟩ : ∃ A1 : Addr, (if n = fr + 1 then some (⟨A, 0, none⟩ : Addr) else some ⟨A, fr + 1, none⟩) = some A1 ∧ Hid (0 < vs.length → A1 = ⟨A, fr + 1, none⟩) := by
    by_cases h : n = fr + 1
    · exact ⟨⟨A, 0, none⟩, by simp [h], fun h0 => by omega⟩
    · exact ⟨⟨A, fr + 1, none⟩, by simp [h], fun _ => rfl⟩
  have a6 := hW.2.2.2.1
  have hgt : (fr : Int) < (to : Int) + 1 := by omega
  have hw0 : IntKind.i64.wrap ((fr : Int) + 1) = (fr : Int) + 1 := by rw [IntKind.wrap_i64]; omega
  have hw1 : IntKind.i64.wrap ((to : Int) + 1) = (to : Int) + 1 := by rw [IntKind.wrap_i64]; omega
  have hb1 : (0 : Int) ≤ (fr : Int) + 1 := by omega
  have hb2 : (0 : Int) ≤ (to : Int) + 1 := by omega
  have ht1 : ((fr : Int) + 1).toNat = fr + 1 := by omega
  have ht2 : ((to : Int) + 1).toNat = to + 1 := by omega
  have hc1 : (fr : Int) + 1 ≤ (to : Int) + 1 := by omega
  have hc2 : (to : Int) + 1 ≤ (n : Int) := by omega
  have hc3 : (fr : Int) ≤ (to : Int) := by omega
  have hc4 : (to : Int) ≤ (n : Int) := by omega
  have hnf : ¬ (n = fr) := by omega
  have htn : (to : Int) < (n : Int) := by omega
  have k6 : w.drew.cell? ⟨B, 6, none⟩ = some (.slice (some ⟨A, 0, none⟩) n n) := a6
  clear hW hx hn hs hfr hto hvs hvl
  go_enter Try.func38, Try.ntmps38
  go_wp2_with (first | (go_at_call_of 39 old; refine SE1.out.mono ?_; rintro e w1 ⟨rfl, rfl⟩) | (go_at_call_of 39 v; refine SE2.out.mono ?_; rintro e w1 ⟨rfl, rfl⟩))
  go_region_law (refine step_copy_ints rfl (.tmp 39) (.tmp 48) rfl (some ⟨A, fr, none⟩) (some A1) (to - fr) (n - fr) (to - fr) (n - (fr + 1)) (by simp [Act.eval, Act.put]) (by simp [Act.eval, Act.put]) A fr xs vs (HX.out.keep ((Later.refl w).drew)) (by rw [HVL.out]; simp) (fun h0 => ⟨rfl, A1, rfl, by rw [HA1.out h0]; exact HSRC.out⟩) (by rw [HVL.out, HN.out]; omega) ?_; intro w4 hI4 hS4)
  all_goals
    have HS4 : Hid (Save A w w4) := (Save.of_later (Later.refl w).drew).trans hS4
    have HW4 : Hid (Win w4 B cnt rec nxt (.slice (some ⟨A, 0, none⟩) n n) sum f t lm) := HW.out.other HS4.out hBA
    obtain ⟨_, _, _, m6, m7, _, _, _, hz⟩ := HW4.out
    have hz7 := hz 7
    have hLL : (xs.take fr ++ vs ++ xs.drop (fr + vs.length)).length = n := by have := HVL.out; have := HN.out; simp; omega
    obtain ⟨ct, cf⟩ := hI4.out to (by rw [hLL]; exact hton)
    have F3 : Hid (IntsW (w4.setCell ⟨A, to, none⟩ (.int .i64 v)) A 0 (insAt (er xs fr) to v)) := by
      have h := hI4.out.set to v (by rw [hLL]; exact hton)
      rw [HMV.out, Nat.zero_add] at h
      exact h
    rw [Nat.zero_add] at ct cf
    generalize (xs.take fr ++ vs ++ xs.drop (fr + vs.length)).getD to 0 = cv at ct
    have hSa : Save A w4 (w4.setCell ⟨A, to, none⟩ (.int .i64 v)) := (Save.of_later (Later.refl w4)).setCell _ _
    have hSb : Save B (w4.setCell ⟨A, to, none⟩ (.int .i64 v)) ((w4.setCell ⟨A, to, none⟩ (.int .i64 v)).setCell ⟨B, 7, none⟩ (.int .i64 (wrap64 (sum + wrap64 (v - old))))) := (Save.of_later (Later.refl _)).setCell _ _
    have G1 : Hid (Save2 A B w ((w4.setCell ⟨A, to, none⟩ (.int .i64 v)).setCell ⟨B, 7, none⟩ (.int .i64 (wrap64 (sum + wrap64 (v - old)))))) := (HS4.out.one.trans hSa.one).trans hSb.two
    have G2 : Hid (Win ((w4.setCell ⟨A, to, none⟩ (.int .i64 v)).setCell ⟨B, 7, none⟩ (.int .i64 (wrap64 (sum + wrap64 (v - old))))) B cnt rec nxt (.slice (some ⟨A, 0, none⟩) n n) (wrap64 (sum + wrap64 (v - old))) f t lm) := (HW4.out.other hSa hBA).setSum _
    have G3 : Hid (IntsAt ((w4.setCell ⟨A, to, none⟩ (.int .i64 v)).setCell ⟨B, 7, none⟩ (.int .i64 (wrap64 (sum + wrap64 (v - old))))) A 0 (insAt (er xs fr) to v)) := F3.out.ints.save hSb hAB
    clear hS4 hI4 hSa hSb hz hLL F3
    go_wp2
    go_end0
    exact ⟨rfl, G1.out, G2.out, G3.out⟩

set_option maxHeartbeats 4000000 in
set_option maxRecDepth 100000 in
theorem replace_up (B A : Nat) (cnt : Int) (rec : Value) (nxt : Int) (n : Nat) (xs : List Int) (sum f t lm : Int) (old v : Int) (w : World) (fr to : Nat)
    (hW : Win w B cnt rec nxt (.slice (some ⟨A, 0, none⟩) n n) sum f t lm) (hx : IntsW w A 0 xs) (hn : xs.length = n) (hAB : A ≠ B) (hs : Srt xs) (hle : n ≤ 1000) (hfr : lowB xs old = fr) (hto : lowB xs v = to) (hlt : to ≤ fr) (hfn : fr < n) :
    Calls Try.prog 38 #[.pointer (some ⟨B, 0, none⟩), .int .i64 old, .int .i64 v] w fun e w' => e = .returned (.tuple #[]) ∧ Save2 A B w w' ∧
      Win w' B cnt rec nxt (.slice (some ⟨A, 0, none⟩) n n) (wrap64 (sum + wrap64 (v - old))) f t lm ∧ IntsAt w' A 0 (insAt (er xs fr) to v) := by
  have HX : Hid (IntsW w A 0 xs) := hx
  have HN : Hid (xs.length = n) := hn
  have HW : Hid (Win w B cnt rec nxt (.slice (some ⟨A, 0, none⟩) n n) sum f t lm) := hW
  have hBA : B ≠ A := fun h => hAB h.symm
  have SE1 : Hid (Calls Try.prog 39 #[.slice (some ⟨A, 0, none⟩) n n, .int .i64 old] w fun e w' => e = .returned (.tuple #[.int .i64 fr, .bool (foundB xs old)]) ∧ w = w') := by
    have h := search_some A 0 n n xs old w hn (by omega) hx.ints hs
    rw [hfr] at h
    exact h.mono fun e w' h => ⟨h.1, h.2.symm⟩
  have SE2 : Hid (Calls Try.prog 39 #[.slice (some ⟨A, 0, none⟩) n n, .int .i64 v] w fun e w' => e = .returned (.tuple #[.int .i64 to, .bool (foundB xs v)]) ∧ w = w') := by
    have h := search_some A 0 n n xs v w hn (by omega) hx.ints hs
    rw [hto] at h
    exact h.mono fun e w' h => ⟨h.1, h.2.symm⟩
  obtain ⟨vs, hvs⟩ : ∃ vs, vs = (xs.drop to).take (fr - to) := ⟨_, rfl⟩
  have hvl : vs.length = fr - to := by rw [hvs]; simp [hn]; omega
  have HVL : Hid (vs.length = fr - to) := hvl
  have HMV : Hid ((xs.take (to + 1) ++ vs ++ xs.drop (to + 1 + vs.length)).set to v = insAt (er xs fr) to v) := by
    show _ = _
    rw [hvl, hvs]; exact move_up xs fr to v hlt (by omega)
  have HSRC : Hid (∀ j u, vs[j]? = some u → w.cell? ((⟨A, to, none⟩ : Addr).add j) = some (.int .i64 u)) := by
    intro j u hj
    have hjl : j < fr - to := by have := (List.getElem?_eq_some_iff.1 hj).1; omega
    rw [hvs, List.getElem?_take, if_pos hjl, List.getElem?_drop] at hj
    have hk : to + j < xs.length := by omega
    have := (hx (to + j) hk).1
    rw [Nat.zero_add] at this
    rw [Addr.add_lit, this]
    simp [hk] at hj
    simp [List.getD, hk, hj]
  obtain ⟨A1, hA1, HA1⟩ : ∃ A1 : Addr, (if n = to + 1 then some (⟨A, 0, none⟩ : Addr) else some ⟨A, to + 1, none⟩) = some A1 ∧ Hid (0 < vs.length → A1 = ⟨A, to + 1, none⟩) := by
    by_cases h : n = to + 1
    · exact ⟨⟨A, 0, none⟩, by simp [h], fun h0 => by omega⟩
    · exact ⟨⟨A, to + 1, none⟩, by simp [h], fun _ => rfl⟩
  have a6 := hW.2.2.2.1
  have hton : to < n := by omega
  have hgt : ¬ ((fr : Int) < (to : Int)) := by omega
  have hw0 : IntKind.i64.wrap ((fr : Int) + 1) = (fr : Int) + 1 := by rw [IntKind.wrap_i64]; omega
  have hw1 : IntKind.i64.wrap ((to : Int) + 1) = (to : Int) + 1 := by rw [IntKind.wrap_i64]; omega
  have hb1 : (0 : Int) ≤ (fr : Int) + 1 := by omega
  have hb2 : (0 : Int) ≤ (to : Int) + 1 := by omega
  have ht1 : ((fr : Int) + 1).toNat = fr + 1 := by omega
  have ht2 : ((to : Int) + 1).toNat = to + 1 := by omega
  have hc1 : (to : Int) + 1 ≤ (fr : Int) + 1 := by omega
  have hc2 : (fr : Int) + 1 ≤ (n : Int) := by omega
  have hc3 : (to : Int) ≤ (fr : Int) := by omega
  have hc4 : (fr : Int) ≤ (n : Int) := by omega
  have hnf : ¬ (n = to) := by omega
  have htn : (to : Int) < (n : Int) := by omega
  have k6 : w.drew.cell? ⟨B, 6, none⟩ = some (.slice (some ⟨A, 0, none⟩) n n) := a6
  clear hW hx hn hs hfr hto hvs hvl
  go_enter Try.func38, Try.ntmps38
  go_wp2_with (first | (go_at_call_of 39 old; refine SE1.out.mono ?_; rintro e w1 ⟨rfl, rfl⟩) | (go_at_call_of 39 v; refine SE2.out.mono ?_; rintro e w1 ⟨rfl, rfl⟩))
  go_region_law (refine step_copy_ints rfl (.tmp 58) (.tmp 65) rfl (some A1) (some ⟨A, to, none⟩) (fr - to) (n - (to + 1)) (fr - to) (n - to) (by simp [Act.eval, Act.put]) (by simp [Act.eval, Act.put]) A (to + 1) xs vs (HX.out.keep ((Later.refl w).drew)) (by rw [HVL.out]; simp) (fun h0 => ⟨by rw [HA1.out h0], ⟨A, to, none⟩, rfl, HSRC.out⟩) (by rw [HVL.out, HN.out]; omega) ?_; intro w4 hI4 hS4)
  all_goals
    have HS4 : Hid (Save A w w4) := (Save.of_later (Later.refl w).drew).trans hS4
    have HW4 : Hid (Win w4 B cnt rec nxt (.slice (some ⟨A, 0, none⟩) n n) sum f t lm) := HW.out.other HS4.out hBA
    obtain ⟨_, _, _, m6, m7, _, _, _, hz⟩ := HW4.out
    have hz7 := hz 7
    have hLL : (xs.take (to + 1) ++ vs ++ xs.drop (to + 1 + vs.length)).length = n := by have := HVL.out; have := HN.out; simp; omega
    obtain ⟨ct, cf⟩ := hI4.out to (by rw [hLL]; exact hton)
    have F3 : Hid (IntsW (w4.setCell ⟨A, to, none⟩ (.int .i64 v)) A 0 (insAt (er xs fr) to v)) := by
      have h := hI4.out.set to v (by rw [hLL]; exact hton)
      rw [HMV.out, Nat.zero_add] at h
      exact h
    rw [Nat.zero_add] at ct cf
    generalize (xs.take (to + 1) ++ vs ++ xs.drop (to + 1 + vs.length)).getD to 0 = cv at ct
    have hSa : Save A w4 (w4.setCell ⟨A, to, none⟩ (.int .i64 v)) := (Save.of_later (Later.refl w4)).setCell _ _
    have hSb : Save B (w4.setCell ⟨A, to, none⟩ (.int .i64 v)) ((w4.setCell ⟨A, to, none⟩ (.int .i64 v)).setCell ⟨B, 7, none⟩ (.int .i64 (wrap64 (sum + wrap64 (v - old))))) := (Save.of_later (Later.refl _)).setCell _ _
    have G1 : Hid (Save2 A B w ((w4.setCell ⟨A, to, none⟩ (.int .i64 v)).setCell ⟨B, 7, none⟩ (.int .i64 (wrap64 (sum + wrap64 (v - old)))))) := (HS4.out.one.trans hSa.one).trans hSb.two
    have G2 : Hid (Win ((w4.setCell ⟨A, to, none⟩ (.int .i64 v)).setCell ⟨B, 7, none⟩ (.int .i64 (wrap64 (sum + wrap64 (v - old))))) B cnt rec nxt (.slice (some ⟨A, 0, none⟩) n n) (wrap64 (sum + wrap64 (v - old))) f t lm) := (HW4.out.other hSa hBA).setSum _
    have G3 : Hid (IntsAt ((w4.setCell ⟨A, to, none⟩ (.int .i64 v)).setCell ⟨B, 7, none⟩ (.int .i64 (wrap64 (sum + wrap64 (v - old))))) A 0 (insAt (er xs fr) to v)) := F3.out.ints.save hSb hAB
    clear hS4 hI4 hSa hSb hz hLL F3
    go_wp2
    go_end0
    exact ⟨rfl, G1.out, G2.out, G3.out⟩
end Go.Proofs.Qxb6612353a
