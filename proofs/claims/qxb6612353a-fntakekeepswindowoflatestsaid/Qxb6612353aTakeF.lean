/-
  'take' into a full window.
-/
import Derived.Test.Qxb6612353aTakeG
namespace Go.Proofs.Qxb6612353a
open Go.RowKit
set_option linter.unusedVariables false

theorem outs_set {w : World} {R n p : Nat} {rs : List O} (o : O) (h : OutsUp w R 0 rs n) (hF : Free w R (n * 3)) (hp : p < n) (hl : rs.length = n) : OutsUp (set3 w R (p * 3) o) R 0 (rs.set p o) n := by
  intro j hj
  rw [Nat.zero_add]
  by_cases e : j = p
  · subst e
    have : (rs.set j o).getD j o0 = o := by simp [List.getD, hl, hj]
    rw [this]
    exact set3_here o hF (by omega)
  · have h' := h j hj
    have : (rs.set p o).getD j o0 = rs.getD j o0 := by simp [List.getD, show ¬ p = j from fun h => e h.symm]
    rw [this]
    rw [Nat.zero_add] at h'
    exact ⟨(set3_other _ (.inr (by omega))).trans h'.1, (set3_other _ (.inr (by omega))).trans h'.2.1, (set3_other _ (.inr (by omega))).trans h'.2.2⟩
theorem save_set3 {R : Nat} {w : World} (off : Nat) (o : O) : Save R w (set3 w R off o) := (((Save.of_later (Later.refl w)).setCell _ _).setCell _ _).setCell _ _

set_option maxHeartbeats 2000000 in
theorem admit_zero (B : Nat) (cnt : Int) (rec : Value) (nxt : Int) (ans : Value) (sum f t lm : Int) (s : Int) (tt : Bool) (l : Int) (w : World)
    (hW : Win w B cnt rec nxt ans sum f t lm) (hs0 : s = 0) (bf : 0 ≤ f ∧ f ≤ 1001) (bt : 0 ≤ t ∧ t ≤ 1001) (bl : 0 ≤ lm ∧ lm ≤ 1001) :
    Calls Try.prog 35 #[.pointer (some ⟨B, 0, none⟩), .agg #[.int .i64 s, .bool tt, .int .i64 l]] w fun e w' => e = .returned (.tuple #[]) ∧ Save B w w' ∧
      Win w' B cnt rec nxt ans sum (up (failB s) f) (up tt t) (up (s == 429) lm) := by
  generalize hf' : up (failB s) f = f'
  generalize ht' : up tt t = t'
  generalize hl' : up (s == 429) lm = lm'
  have HT : Hid (∀ w0 : World, Win w0 B cnt rec nxt ans sum f t lm → Calls Try.prog 37 #[.pointer (some ⟨B, 0, none⟩), .agg #[.int .i64 s, .bool tt, .int .i64 l], .int .i64 1] w0 fun e w' => e = .returned (.tuple #[]) ∧ Save B w0 w' ∧ Win w' B cnt rec nxt ans sum f' t' lm') := by
    intro w0 h0
    have := tally_up B cnt rec nxt ans sum f t lm s tt l w0 h0 bf bt bl
    have e1 : (if failB s then f + 1 else f) = f' := hf'
    have e2 : (if tt then t + 1 else t) = t' := ht'
    have e3 : (if s == 429 then lm + 1 else lm) = lm' := hl'
    rw [e1, e2, e3] at this
    exact this
  have HW : Hid (Win w B cnt rec nxt ans sum f t lm) := hW
  have hBw : B < w.heap.size := hW.lt
  have hBn : w.heap.size ≠ B := by omega
  clear hf' ht' hl' hW bf bt bl
  have hd : (s == 0) = true := by simpa using hs0
  clear hs0
  go_enter Try.func35, Try.ntmps35
  go_wp2_with (go_at_call 37; refine (HT.out _ (HW.out.keep ((Later.refl w).alloc _))).mono ?_; rintro e w1 ⟨rfl, hS1, hW1⟩; have b0 : w1.cell? ⟨w.heap.size, 0, none⟩ = some (.int .i64 s) := hS1.cell hBn (by simp))
  refine bodyPost_ret (results_none rfl _ _ _) rfl ?_
  exact ⟨rfl, (Save.of_later ((Later.refl w).alloc _)).trans hS1, hW1⟩

/-- one latency in place of another, the row sorted -/
theorem replace_any (B A : Nat) (cnt : Int) (rec : Value) (nxt : Int) (n : Nat) (xs : List Int) (sum f t lm : Int) (old v : Int) (w : World)
    (hW : Win w B cnt rec nxt (.slice (some ⟨A, 0, none⟩) n n) sum f t lm) (hx : IntsW w A 0 xs) (hn : xs.length = n) (hAB : A ≠ B) (hs : Srt xs) (hle : n ≤ 1000) (hmem : old ∈ xs) :
    Calls Try.prog 38 #[.pointer (some ⟨B, 0, none⟩), .int .i64 old, .int .i64 v] w fun e w' => e = .returned (.tuple #[]) ∧ Save2 A B w w' ∧
      ∃ ys, Win w' B cnt rec nxt (.slice (some ⟨A, 0, none⟩) n n) (wrap64 (sum + wrap64 (v - old))) f t lm ∧ IntsAt w' A 0 ys ∧ ys.length = n ∧ Srt ys ∧ ys.Perm (v :: er xs (lowB xs old)) := by
  obtain ⟨m1, m2⟩ := low_mem xs old hs hmem
  have q1 := (low_spec xs v hs).1
  have le := er_len xs (lowB xs old) m1
  by_cases c : lowB xs old < lowB xs v
  · obtain ⟨to, hto⟩ : ∃ to, lowB xs v = to + 1 := ⟨lowB xs v - 1, by omega⟩
    refine (replace_down B A cnt rec nxt n xs sum f t lm old v w (lowB xs old) to hW hx hn hAB hs hle rfl hto (by omega) (by omega)).mono ?_
    rintro e w' ⟨h1, h2, h3, h4⟩
    exact ⟨h1, h2, _, h3, h4, by rw [insAt_len, le]; omega, repl_srt xs _ _ to v hs m1 hto (.inl ⟨by omega, rfl⟩), insAt_perm _ _ _⟩
  · refine (replace_up B A cnt rec nxt n xs sum f t lm old v w (lowB xs old) (lowB xs v) hW hx hn hAB hs hle rfl rfl (by omega) (by omega)).mono ?_
    rintro e w' ⟨h1, h2, h3, h4⟩
    exact ⟨h1, h2, _, h3, h4, by rw [insAt_len, le]; omega, repl_srt xs _ _ (lowB xs v) v hs m1 rfl (.inr ⟨by omega, rfl⟩), insAt_perm _ _ _⟩

/-- what a take into a full window leaves -/
def FullPost (M B R p : Nat) (cnt : Int) (rs : List O) (o : O) (w w' : World) : Prop :=
  Below M w w' ∧ ∃ a' n' c' ys sum' f' t' l', Win w' B (wrap64 (cnt + 1)) (.slice (some ⟨R, 0, none⟩) 1000 1000) (((p : Int) + 1) % 1000) (.slice a' n' c') sum' f' t' l' ∧ SlI w' a' n' ys ∧ OutsUp w' R 0 (rs.set p o) 1000 ∧ figB ys sum' f' t' l' (rs.set p o) = true

set_option maxHeartbeats 4000000 in
set_option maxRecDepth 100000 in
theorem take_full0 (M B R p : Nat) (cnt : Int) (rs : List O) (m : Nat) (xs : List Int) (sum f t lm : Int) (s : Int) (tt : Bool) (l : Int) (es : Int) (et : Bool) (el : Int) (w : World) (a : Option Addr)
    (hW : Win w B cnt (.slice (some ⟨R, 0, none⟩) 1000 1000) p (.slice a m m) sum f t lm) (hp : p < 1000) (hrn : rs.length = 1000) (he : rs.getD p o0 = (es, et, el)) (hO : OutsUp w R 0 rs 1000) (hF : Free w R (1000 * 3)) (hRB : R ≠ B) (hMB : M ≤ B) (hMR : M ≤ R) (hfig : figB xs sum f t lm rs = true) (hx : SlI w a m xs) (hax : ∀ x, a = some x → x.block ≠ B ∧ x.block ≠ R) (hs0 : es = 0) :
    Calls Try.prog 33 #[.pointer (some ⟨B, 0, none⟩), .agg #[.int .i64 s, .bool tt, .int .i64 l]] w fun e w' => e = .returned (.tuple #[]) ∧ FullPost M B R p cnt rs (s, tt, l) w w' := by
  have HP1 : Hid (rs.Perm ((es, et, el) :: rs.eraseIdx p)) := by
    have h := get_perm rs p (by omega)
    rw [he] at h; exact h
  have HP2 : Hid ((rs.set p (s, tt, l)).Perm ((s, tt, l) :: rs.eraseIdx p)) := set_perm rs p _ (by omega)
  have HFG : Hid (figB xs sum f t lm rs = true) := hfig
  have hsr : Srt xs := fig_srt hfig
  have hbd := fig_bounds hfig hrn
  have hev := evict_law es et el HP1.out hfig
  have hbd2 := fig_bounds hev (show (rs.eraseIdx p).length = 999 by rw [List.length_eraseIdx, if_pos (by omega)]; omega)
  have HSR : Hid (Srt xs) := hsr
  have BF : Hid (0 ≤ f ∧ f ≤ 1001) := by show _ ∧ _; omega
  have BT : Hid (0 ≤ t ∧ t ≤ 1001) := by show _ ∧ _; omega
  have BL : Hid (0 ≤ lm ∧ lm ≤ 1001) := by show _ ∧ _; omega
  have BF2 : Hid (0 ≤ dn (failB es) f ∧ dn (failB es) f ≤ 1001) := by show _ ∧ _; omega
  have BT2 : Hid (0 ≤ dn et t ∧ dn et t ≤ 1001) := by show _ ∧ _; omega
  have BL2 : Hid (0 ≤ dn (es == 429) lm ∧ dn (es == 429) lm ≤ 1001) := by show _ ∧ _; omega
  have hlx : xs.length ≤ 1000 := by have := fig_len hfig; omega
  obtain ⟨W, hWd⟩ : ∃ W, W = (w.setCell ⟨B, 3, none⟩ (.int .i64 (wrap64 (cnt + 1)))).alloc (.cells #[.int .i64 s, .bool tt, .int .i64 l] 36) := ⟨_, rfl⟩
  have hBw : B < w.heap.size := hW.lt
  have hBn : w.heap.size ≠ B := by omega
  have HS : Hid (Save B w W) := by show Save B w W; rw [hWd]; exact ((Save.of_later (Later.refl w)).setCell _ _).trans (Save.of_later ((Later.refl _).alloc _))
  have HW : Hid (Win W B (wrap64 (cnt + 1)) (.slice (some ⟨R, 0, none⟩) 1000 1000) p (.slice a m m) sum f t lm) := by show Win W _ _ _ _ _ _ _ _ _; rw [hWd]; exact (hW.setCnt _).keep ((Later.refl _).alloc _)
  have b0 : W.cell? ⟨w.heap.size, 0, none⟩ = some (.int .i64 s) := by rw [hWd]; simp [go_sem]
  have b1 : W.cell? ⟨w.heap.size, 1, none⟩ = some (.bool tt) := by rw [hWd]; simp [go_sem]
  have b2 : W.cell? ⟨w.heap.size, 2, none⟩ = some (.int .i64 l) := by rw [hWd]; simp [go_sem]
  have HO : Hid (OutsUp W R 0 rs 1000) := hO.save HS.out hRB
  have hRw : R < w.heap.size := World.block_lt_of_cell? w _ (hO p hp).1
  have hRn : w.heap.size ≠ R := by omega
  obtain ⟨c0, c1, c2⟩ := HO.out p hp
  rw [he, Nat.zero_add] at c0 c1 c2
  have hRW : R < W.heap.size := World.block_lt_of_cell? W _ c0
  have hpi : (p : Int) < 1000 := by omega
  have hBR : B ≠ R := fun h => hRB h.symm
  have hd : (es == 0) = true := by simpa using hs0
  have HX : Hid (SlI w a m xs) := hx
  have HAX : Hid (∀ x, a = some x → x.block ≠ B ∧ x.block ≠ R) := hax
  have HE0 : Hid (es = 0) := hs0
  have hm : m ≤ 1000 := by have := hx.1; omega
  clear hx hax hs0
  have HRN : Hid (rs.length = 1000) := hrn
  obtain ⟨p3, p4, p5, p6, p7, p8, p9, p10, pz⟩ := hW
  have pz3 := pz 3
  have ⟨m3, m4, m5, m6, m7, m8, m9, m10, mz⟩ := HW.out
  have hBW : B < W.heap.size := HW.out.lt
  have hnB : W.heap.size ≠ B := by omega
  have hnR : W.heap.size ≠ R := by omega
  clear hO hrn m3 m6 m7 m8 m9 m10 mz p5 p6 p7 p8 p9 p10 pz hfig hsr hbd hev hbd2 he
  go_enter Try.func33, Try.ntmps33
  go_wp2_with fail
  rw [← hWd]
  clear hWd p3 p4 pz3
  go_region
  obtain ⟨W2, hW2d⟩ : ∃ W2, W2 = (W.alloc (.cells #[.int .i64 es, .bool et, .int .i64 el] 36)).drew := ⟨_, rfl⟩
  have hL2 : Later W W2 := by rw [hW2d]; exact ((Later.refl W).alloc _).drew
  have HS2 : Hid (Save B w W2) := HS.out.trans (Save.of_later hL2)
  have HW2 : Hid (Win W2 B (wrap64 (cnt + 1)) (.slice (some ⟨R, 0, none⟩) 1000 1000) p (.slice a m m) sum f t lm) := HW.out.keep hL2
  have HO2 : Hid (OutsUp W2 R 0 rs 1000) := HO.out.keep hL2
  have e0 : W2.cell? ⟨W.heap.size, 0, none⟩ = some (.int .i64 es) := by rw [hW2d]; simp [go_sem]
  have e1 : W2.cell? ⟨W.heap.size, 1, none⟩ = some (.bool et) := by rw [hW2d]; simp [go_sem]
  have e2 : W2.cell? ⟨W.heap.size, 2, none⟩ = some (.int .i64 el) := by rw [hW2d]; simp [go_sem]
  rw [← hW2d]
  replace b0 := hL2.cell b0
  replace b1 := hL2.cell b1
  replace b2 := hL2.cell b2
  have HF2 : Hid (Free W2 R (1000 * 3)) := (fun j hj => by
    obtain ⟨⟨v, hv⟩, hf⟩ := hF j hj
    exact ⟨⟨v, HS2.out.cell hRB hv⟩, HS2.out.frozen hRB hv hf⟩)
  obtain ⟨⟨v0, r0⟩, f0⟩ := HF2.out (p * 3) (by omega)
  obtain ⟨⟨v1, r1⟩, f1⟩ := HF2.out (p * 3 + 1) (by omega)
  obtain ⟨⟨v2, r2⟩, f2⟩ := HF2.out (p * 3 + 2) (by omega)
  have ⟨_, m4', m5', _, _, _, _, _, mz⟩ := HW2.out
  have mz5 := mz 5
  clear hW2d mz m4 m5 c0 c1 c2 HS HW HO hF hL2
  go_wp2_with fail
  go_region
  go_wp2_with fail
  obtain ⟨W3, hW3d⟩ : ∃ W3, W3 = ((set3 W2 R (p * 3) (s, tt, l)).setCell ⟨B, 5, none⟩ (.int .i64 (((p : Int) + 1) % 1000))).drew := ⟨_, rfl⟩
  have hSR : Save R W2 (set3 W2 R (p * 3) (s, tt, l)) := save_set3 _ _
  have hSB : Save B (set3 W2 R (p * 3) (s, tt, l)) W3 := by rw [hW3d]; exact ((Save.of_later (Later.refl _)).setCell _ _).drew
  have HW3 : Hid (Win W3 B (wrap64 (cnt + 1)) (.slice (some ⟨R, 0, none⟩) 1000 1000) (((p : Int) + 1) % 1000) (.slice a m m) sum f t lm) := by
    show Win W3 _ _ _ _ _ _ _ _ _
    rw [hW3d]; exact ((HW2.out.other hSR hBR).setNxt _).keep (Later.refl _).drew
  have HO3 : Hid (OutsUp W3 R 0 (rs.set p (s, tt, l)) 1000) := (outs_set (s, tt, l) HO2.out HF2.out hp HRN.out).save hSB hRB
  have HB3 : Hid (Below M w W3) := by
    have h1 : Below M w W2 := Below.mono (HS2.out.below (Nat.le_of_lt hBw)) hMB
    have h2 : Below M W2 (set3 W2 R (p * 3) (s, tt, l)) := below_set3 (Below.refl _ _) hMR _
    have h3 : Below M (set3 W2 R (p * 3) (s, tt, l)) W3 := ⟨hSB.os, hSB.tape, hSB.output, hSB.size, fun k hk => hSB.block k (by have := h1.size; have := h2.size; omega) (by omega)⟩
    exact (h1.trans h2).trans h3
  have hM3 : M ≤ W3.heap.size := by have := HB3.out.size; omega
  replace b0 := hSB.cell (a := ⟨w.heap.size, 0, none⟩) hBn (hSR.cell (a := ⟨w.heap.size, 0, none⟩) hRn b0)
  replace b1 := hSB.cell (a := ⟨w.heap.size, 1, none⟩) hBn (hSR.cell (a := ⟨w.heap.size, 1, none⟩) hRn b1)
  replace b2 := hSB.cell (a := ⟨w.heap.size, 2, none⟩) hBn (hSR.cell (a := ⟨w.heap.size, 2, none⟩) hRn b2)
  replace e0 := hSB.cell (a := ⟨W.heap.size, 0, none⟩) hnB (hSR.cell (a := ⟨W.heap.size, 0, none⟩) hnR e0)
  replace e1 := hSB.cell (a := ⟨W.heap.size, 1, none⟩) hnB (hSR.cell (a := ⟨W.heap.size, 1, none⟩) hnR e1)
  replace e2 := hSB.cell (a := ⟨W.heap.size, 2, none⟩) hnB (hSR.cell (a := ⟨W.heap.size, 2, none⟩) hnR e2)
  have HX3 : Hid (SlB W3 B a m xs) := by
    have h2 : SlB W2 B a m xs := SlB.save ⟨HX.out, fun x hx => (HAX.out x hx).1⟩ HS2.out
    have h3 : SlB (set3 W2 R (p * 3) (s, tt, l)) R a m xs := SlB.save ⟨h2.1, fun x hx => (HAX.out x hx).2⟩ hSR
    exact SlB.save ⟨h3.1, fun x hx => (HAX.out x hx).1⟩ hSB
  have HFIN : Hid (figB (ansIn s l xs) (sumIn s l sum) (up (failB s) (dn (failB es) f)) (up tt (dn et t)) (up (s == 429) (dn (es == 429) lm)) (rs.set p (s, tt, l)) = true) := by
    have h := admit_law s tt l HP2.out (evict_law es et el HP1.out HFG.out)
    unfold ansOut sumOut at h
    rw [if_pos HE0.out, if_pos HE0.out] at h
    exact h
  have EV : Hid (Calls Try.prog 36 #[.pointer (some ⟨B, 0, none⟩), .agg #[.int .i64 es, .bool et, .int .i64 el]] W3 fun e w' => e = .returned (.tuple #[]) ∧ Save B W3 w' ∧ Win w' B (wrap64 (cnt + 1)) (.slice (some ⟨R, 0, none⟩) 1000 1000) (((p : Int) + 1) % 1000) (.slice a m m) sum (dn (failB es) f) (dn et t) (dn (es == 429) lm)) :=
    evict_zero B _ _ _ _ sum f t lm es et el W3 HW3.out HE0.out BF.out BT.out BL.out
  rw [hW3d] at EV
  refine EV.out.mono ?_
  rw [← hW3d]
  rintro e w4 ⟨rfl, hS4, hW4⟩
  clear hW3d EV r0 r1 r2 f0 f1 f2 m4' m5' mz5 hSR hSB HW2 HO2 HF2 HS2 HW3
  replace b0 := hS4.cell (a := ⟨w.heap.size, 0, none⟩) hBn b0
  replace b1 := hS4.cell (a := ⟨w.heap.size, 1, none⟩) hBn b1
  replace b2 := hS4.cell (a := ⟨w.heap.size, 2, none⟩) hBn b2
  go_wp2_with (go_at_call 35; refine (admit_any B _ _ _ a m xs sum _ _ _ s tt l w4 hW4 (HX3.out.save hS4) HSR.out hm BF2.out BT2.out BL2.out).mono ?_; rintro e w5 ⟨rfl, hS5, a', n', c', hW5, hX5⟩)
  refine bodyPost_ret (results_none rfl _ _ _) rfl ?_
  have hS : Save B W3 w5 := hS4.trans hS5
  exact ⟨rfl, HB3.out.trans ⟨hS.os, hS.tape, hS.output, hS.size, fun k hk => hS.block k (by omega) (by omega)⟩, a', n', c', _, _, _, _, _, hW5, hX5.1, HO3.out.save hS hRB, HFIN.out⟩

set_option maxHeartbeats 4000000 in
set_option maxRecDepth 100000 in
theorem take_full1 (M B R p : Nat) (cnt : Int) (rs : List O) (m : Nat) (xs : List Int) (sum f t lm : Int) (s : Int) (tt : Bool) (l : Int) (es : Int) (et : Bool) (el : Int) (w : World) (A : Nat)
    (hW : Win w B cnt (.slice (some ⟨R, 0, none⟩) 1000 1000) p (.slice (some ⟨A, 0, none⟩) m m) sum f t lm) (hp : p < 1000) (hrn : rs.length = 1000) (he : rs.getD p o0 = (es, et, el)) (hO : OutsUp w R 0 rs 1000) (hF : Free w R (1000 * 3)) (hRB : R ≠ B) (hMB : M ≤ B) (hMR : M ≤ R) (hfig : figB xs sum f t lm rs = true) (hx : IntsW w A 0 xs) (hn : xs.length = m) (hAw : A < w.heap.size) (hAB : A ≠ B) (hAR : A ≠ R) (hMA : M ≤ A) (he0 : es ≠ 0) (hs0 : s = 0) :
    Calls Try.prog 33 #[.pointer (some ⟨B, 0, none⟩), .agg #[.int .i64 s, .bool tt, .int .i64 l]] w fun e w' => e = .returned (.tuple #[]) ∧ FullPost M B R p cnt rs (s, tt, l) w w' := by
  have HP1 : Hid (rs.Perm ((es, et, el) :: rs.eraseIdx p)) := by
    have h := get_perm rs p (by omega)
    rw [he] at h; exact h
  have HP2 : Hid ((rs.set p (s, tt, l)).Perm ((s, tt, l) :: rs.eraseIdx p)) := set_perm rs p _ (by omega)
  have HFG : Hid (figB xs sum f t lm rs = true) := hfig
  have hsr : Srt xs := fig_srt hfig
  have hbd := fig_bounds hfig hrn
  have hev := evict_law es et el HP1.out hfig
  have hbd2 := fig_bounds hev (show (rs.eraseIdx p).length = 999 by rw [List.length_eraseIdx, if_pos (by omega)]; omega)
  have HSR : Hid (Srt xs) := hsr
  have BF : Hid (0 ≤ f ∧ f ≤ 1001) := by show _ ∧ _; omega
  have BT : Hid (0 ≤ t ∧ t ≤ 1001) := by show _ ∧ _; omega
  have BL : Hid (0 ≤ lm ∧ lm ≤ 1001) := by show _ ∧ _; omega
  have BF2 : Hid (0 ≤ dn (failB es) f ∧ dn (failB es) f ≤ 1001) := by show _ ∧ _; omega
  have BT2 : Hid (0 ≤ dn et t ∧ dn et t ≤ 1001) := by show _ ∧ _; omega
  have BL2 : Hid (0 ≤ dn (es == 429) lm ∧ dn (es == 429) lm ≤ 1001) := by show _ ∧ _; omega
  have hlx : xs.length ≤ 1000 := by have := fig_len hfig; omega
  obtain ⟨W, hWd⟩ : ∃ W, W = (w.setCell ⟨B, 3, none⟩ (.int .i64 (wrap64 (cnt + 1)))).alloc (.cells #[.int .i64 s, .bool tt, .int .i64 l] 36) := ⟨_, rfl⟩
  have hBw : B < w.heap.size := hW.lt
  have hBn : w.heap.size ≠ B := by omega
  have HS : Hid (Save B w W) := by show Save B w W; rw [hWd]; exact ((Save.of_later (Later.refl w)).setCell _ _).trans (Save.of_later ((Later.refl _).alloc _))
  have HW : Hid (Win W B (wrap64 (cnt + 1)) (.slice (some ⟨R, 0, none⟩) 1000 1000) p (.slice (some ⟨A, 0, none⟩) m m) sum f t lm) := by show Win W _ _ _ _ _ _ _ _ _; rw [hWd]; exact (hW.setCnt _).keep ((Later.refl _).alloc _)
  have b0 : W.cell? ⟨w.heap.size, 0, none⟩ = some (.int .i64 s) := by rw [hWd]; simp [go_sem]
  have b1 : W.cell? ⟨w.heap.size, 1, none⟩ = some (.bool tt) := by rw [hWd]; simp [go_sem]
  have b2 : W.cell? ⟨w.heap.size, 2, none⟩ = some (.int .i64 l) := by rw [hWd]; simp [go_sem]
  have HO : Hid (OutsUp W R 0 rs 1000) := hO.save HS.out hRB
  have hRw : R < w.heap.size := World.block_lt_of_cell? w _ (hO p hp).1
  have hRn : w.heap.size ≠ R := by omega
  obtain ⟨c0, c1, c2⟩ := HO.out p hp
  rw [he, Nat.zero_add] at c0 c1 c2
  have hRW : R < W.heap.size := World.block_lt_of_cell? W _ c0
  have hpi : (p : Int) < 1000 := by omega
  have hBR : B ≠ R := fun h => hRB h.symm
  have HX : Hid (IntsW w A 0 xs) := hx
  have HN : Hid (xs.length = m) := hn
  have hm : m ≤ 1000 := by omega
  have HME : Hid (el ∈ xs) := fig_mem es et el HP1.out HFG.out he0
  have HE0 : Hid (es ≠ 0) := he0
  have hd : (es == 0) = false := by simpa using he0
  have hAW : Hid (A < w.heap.size) := hAw
  clear hx hn he0 hAw
  have hd2 : (s == 0) = true := by simpa using hs0
  have HS0 : Hid (s = 0) := hs0
  have hnA : w.heap.size ≠ A := by have := hAW.out; omega
  clear hs0
  have HRN : Hid (rs.length = 1000) := hrn
  obtain ⟨p3, p4, p5, p6, p7, p8, p9, p10, pz⟩ := hW
  have pz3 := pz 3
  have ⟨m3, m4, m5, m6, m7, m8, m9, m10, mz⟩ := HW.out
  have hBW : B < W.heap.size := HW.out.lt
  have hnB : W.heap.size ≠ B := by omega
  have hnR : W.heap.size ≠ R := by omega
  clear hO hrn m3 m6 m7 m8 m9 m10 mz p5 p6 p7 p8 p9 p10 pz hfig hsr hbd hev hbd2 he
  go_enter Try.func33, Try.ntmps33
  go_wp2_with fail
  rw [← hWd]
  clear hWd p3 p4 pz3
  go_region
  obtain ⟨W2, hW2d⟩ : ∃ W2, W2 = (W.alloc (.cells #[.int .i64 es, .bool et, .int .i64 el] 36)).drew := ⟨_, rfl⟩
  have hL2 : Later W W2 := by rw [hW2d]; exact ((Later.refl W).alloc _).drew
  have HS2 : Hid (Save B w W2) := HS.out.trans (Save.of_later hL2)
  have HW2 : Hid (Win W2 B (wrap64 (cnt + 1)) (.slice (some ⟨R, 0, none⟩) 1000 1000) p (.slice (some ⟨A, 0, none⟩) m m) sum f t lm) := HW.out.keep hL2
  have HO2 : Hid (OutsUp W2 R 0 rs 1000) := HO.out.keep hL2
  have e0 : W2.cell? ⟨W.heap.size, 0, none⟩ = some (.int .i64 es) := by rw [hW2d]; simp [go_sem]
  have e1 : W2.cell? ⟨W.heap.size, 1, none⟩ = some (.bool et) := by rw [hW2d]; simp [go_sem]
  have e2 : W2.cell? ⟨W.heap.size, 2, none⟩ = some (.int .i64 el) := by rw [hW2d]; simp [go_sem]
  rw [← hW2d]
  replace b0 := hL2.cell b0
  replace b1 := hL2.cell b1
  replace b2 := hL2.cell b2
  have HF2 : Hid (Free W2 R (1000 * 3)) := (fun j hj => by
    obtain ⟨⟨v, hv⟩, hf⟩ := hF j hj
    exact ⟨⟨v, HS2.out.cell hRB hv⟩, HS2.out.frozen hRB hv hf⟩)
  obtain ⟨⟨v0, r0⟩, f0⟩ := HF2.out (p * 3) (by omega)
  obtain ⟨⟨v1, r1⟩, f1⟩ := HF2.out (p * 3 + 1) (by omega)
  obtain ⟨⟨v2, r2⟩, f2⟩ := HF2.out (p * 3 + 2) (by omega)
  have ⟨_, m4', m5', _, _, _, _, _, mz⟩ := HW2.out
  have mz5 := mz 5
  clear hW2d mz m4 m5 c0 c1 c2 HS HW HO hF hL2
  go_wp2_with fail
  go_region
  go_wp2_with fail
  obtain ⟨W3, hW3d⟩ : ∃ W3, W3 = ((set3 W2 R (p * 3) (s, tt, l)).setCell ⟨B, 5, none⟩ (.int .i64 (((p : Int) + 1) % 1000))).drew := ⟨_, rfl⟩
  have hSR : Save R W2 (set3 W2 R (p * 3) (s, tt, l)) := save_set3 _ _
  have hSB : Save B (set3 W2 R (p * 3) (s, tt, l)) W3 := by rw [hW3d]; exact ((Save.of_later (Later.refl _)).setCell _ _).drew
  have HW3 : Hid (Win W3 B (wrap64 (cnt + 1)) (.slice (some ⟨R, 0, none⟩) 1000 1000) (((p : Int) + 1) % 1000) (.slice (some ⟨A, 0, none⟩) m m) sum f t lm) := by
    show Win W3 _ _ _ _ _ _ _ _ _
    rw [hW3d]; exact ((HW2.out.other hSR hBR).setNxt _).keep (Later.refl _).drew
  have HO3 : Hid (OutsUp W3 R 0 (rs.set p (s, tt, l)) 1000) := (outs_set (s, tt, l) HO2.out HF2.out hp HRN.out).save hSB hRB
  have HB3 : Hid (Below M w W3) := by
    have h1 : Below M w W2 := Below.mono (HS2.out.below (Nat.le_of_lt hBw)) hMB
    have h2 : Below M W2 (set3 W2 R (p * 3) (s, tt, l)) := below_set3 (Below.refl _ _) hMR _
    have h3 : Below M (set3 W2 R (p * 3) (s, tt, l)) W3 := ⟨hSB.os, hSB.tape, hSB.output, hSB.size, fun k hk => hSB.block k (by have := h1.size; have := h2.size; omega) (by omega)⟩
    exact (h1.trans h2).trans h3
  have hM3 : M ≤ W3.heap.size := by have := HB3.out.size; omega
  replace b0 := hSB.cell (a := ⟨w.heap.size, 0, none⟩) hBn (hSR.cell (a := ⟨w.heap.size, 0, none⟩) hRn b0)
  replace b1 := hSB.cell (a := ⟨w.heap.size, 1, none⟩) hBn (hSR.cell (a := ⟨w.heap.size, 1, none⟩) hRn b1)
  replace b2 := hSB.cell (a := ⟨w.heap.size, 2, none⟩) hBn (hSR.cell (a := ⟨w.heap.size, 2, none⟩) hRn b2)
  replace e0 := hSB.cell (a := ⟨W.heap.size, 0, none⟩) hnB (hSR.cell (a := ⟨W.heap.size, 0, none⟩) hnR e0)
  replace e1 := hSB.cell (a := ⟨W.heap.size, 1, none⟩) hnB (hSR.cell (a := ⟨W.heap.size, 1, none⟩) hnR e1)
  replace e2 := hSB.cell (a := ⟨W.heap.size, 2, none⟩) hnB (hSR.cell (a := ⟨W.heap.size, 2, none⟩) hnR e2)
  have HX3 : Hid (IntsW W3 A 0 xs) := ((HX.out.save HS2.out hAB).save hSR hAR).save hSB hAB
  have HA3 : Hid (A < W3.heap.size) := by have := hAW.out; have := HB3.out.size; show A < _; omega
  have HFIN : Hid (figB (xs.take (lowB xs el) ++ xs.drop (lowB xs el + 1)) (wrap64 (sum - el)) (up (failB s) (dn (failB es) f)) (up tt (dn et t)) (up (s == 429) (dn (es == 429) lm)) (rs.set p (s, tt, l)) = true) := by
    have h := admit_law s tt l HP2.out (evict_law es et el HP1.out HFG.out)
    unfold ansOut sumOut ansIn sumIn at h
    rw [if_neg HE0.out, if_neg HE0.out, if_pos HS0.out, if_pos HS0.out] at h
    exact h
  have HLE : Hid ((xs.take (lowB xs el) ++ xs.drop (lowB xs el + 1)).length = m - 1) := by
    have h := er_len xs (lowB xs el) (low_mem xs el HSR.out HME.out).1
    rw [HN.out] at h; exact h
  have EV : Hid (Calls Try.prog 36 #[.pointer (some ⟨B, 0, none⟩), .agg #[.int .i64 es, .bool et, .int .i64 el]] W3 fun e w' => e = .returned (.tuple #[]) ∧ Save2 A B W3 w' ∧
      Win w' B (wrap64 (cnt + 1)) (.slice (some ⟨R, 0, none⟩) 1000 1000) (((p : Int) + 1) % 1000) (.slice (some ⟨A, 0, none⟩) (m - 1) m) (wrap64 (sum - el)) (dn (failB es) f) (dn et t) (dn (es == 429) lm) ∧ IntsAt w' A 0 (xs.take (lowB xs el) ++ xs.drop (lowB xs el + 1))) :=
    evict_ans B A _ _ _ m xs sum f t lm es et el W3 HW3.out HX3.out HN.out HA3.out hAB HSR.out hm HME.out HE0.out BF.out BT.out BL.out
  rw [hW3d] at EV
  refine EV.out.mono ?_
  rw [← hW3d]
  rintro e w4 ⟨rfl, hS4, hW4, hI4⟩
  clear EV
  clear hW3d r0 r1 r2 f0 f1 f2 m4' m5' mz5 hSR hSB HW2 HO2 HF2 HS2 HW3
  replace b0 := hS4.cell (a := ⟨w.heap.size, 0, none⟩) hnA hBn b0
  replace b1 := hS4.cell (a := ⟨w.heap.size, 1, none⟩) hnA hBn b1
  replace b2 := hS4.cell (a := ⟨w.heap.size, 2, none⟩) hnA hBn b2
  go_wp2_with (go_at_call 35; refine (admit_zero B _ _ _ _ _ _ _ _ s tt l w4 hW4 HS0.out BF2.out BT2.out BL2.out).mono ?_; rintro e w5 ⟨rfl, hS5, hW5⟩)
  refine bodyPost_ret (results_none rfl _ _ _) rfl ?_
  have hRA : R ≠ A := fun h => hAR h.symm
  have hS : Save2 A B W3 w5 := hS4.trans hS5.two
  exact ⟨rfl, HB3.out.trans (hS.below hMA hMB hM3), some ⟨A, 0, none⟩, m - 1, m, _, _, _, _, _, hW5, ⟨HLE.out, .inr ⟨A, 0, rfl, Nat.lt_of_lt_of_le HA3.out hS.size, hI4.save hS5 hAB⟩⟩, HO3.out.save2 hS hRA hRB, HFIN.out⟩

set_option maxHeartbeats 4000000 in
set_option maxRecDepth 100000 in
theorem take_full2 (M B R p : Nat) (cnt : Int) (rs : List O) (m : Nat) (xs : List Int) (sum f t lm : Int) (s : Int) (tt : Bool) (l : Int) (es : Int) (et : Bool) (el : Int) (w : World) (A : Nat)
    (hW : Win w B cnt (.slice (some ⟨R, 0, none⟩) 1000 1000) p (.slice (some ⟨A, 0, none⟩) m m) sum f t lm) (hp : p < 1000) (hrn : rs.length = 1000) (he : rs.getD p o0 = (es, et, el)) (hO : OutsUp w R 0 rs 1000) (hF : Free w R (1000 * 3)) (hRB : R ≠ B) (hMB : M ≤ B) (hMR : M ≤ R) (hfig : figB xs sum f t lm rs = true) (hx : IntsW w A 0 xs) (hn : xs.length = m) (hAw : A < w.heap.size) (hAB : A ≠ B) (hAR : A ≠ R) (hMA : M ≤ A) (he0 : es ≠ 0) (hs0 : s ≠ 0) :
    Calls Try.prog 33 #[.pointer (some ⟨B, 0, none⟩), .agg #[.int .i64 s, .bool tt, .int .i64 l]] w fun e w' => e = .returned (.tuple #[]) ∧ FullPost M B R p cnt rs (s, tt, l) w w' := by
  have HP1 : Hid (rs.Perm ((es, et, el) :: rs.eraseIdx p)) := by
    have h := get_perm rs p (by omega)
    rw [he] at h; exact h
  have HP2 : Hid ((rs.set p (s, tt, l)).Perm ((s, tt, l) :: rs.eraseIdx p)) := set_perm rs p _ (by omega)
  have HFG : Hid (figB xs sum f t lm rs = true) := hfig
  have hsr : Srt xs := fig_srt hfig
  have hbd := fig_bounds hfig hrn
  have hev := evict_law es et el HP1.out hfig
  have hbd2 := fig_bounds hev (show (rs.eraseIdx p).length = 999 by rw [List.length_eraseIdx, if_pos (by omega)]; omega)
  have HSR : Hid (Srt xs) := hsr
  have BF : Hid (0 ≤ f ∧ f ≤ 1001) := by show _ ∧ _; omega
  have BT : Hid (0 ≤ t ∧ t ≤ 1001) := by show _ ∧ _; omega
  have BL : Hid (0 ≤ lm ∧ lm ≤ 1001) := by show _ ∧ _; omega
  have BF2 : Hid (0 ≤ dn (failB es) f ∧ dn (failB es) f ≤ 1001) := by show _ ∧ _; omega
  have BT2 : Hid (0 ≤ dn et t ∧ dn et t ≤ 1001) := by show _ ∧ _; omega
  have BL2 : Hid (0 ≤ dn (es == 429) lm ∧ dn (es == 429) lm ≤ 1001) := by show _ ∧ _; omega
  have hlx : xs.length ≤ 1000 := by have := fig_len hfig; omega
  obtain ⟨W, hWd⟩ : ∃ W, W = (w.setCell ⟨B, 3, none⟩ (.int .i64 (wrap64 (cnt + 1)))).alloc (.cells #[.int .i64 s, .bool tt, .int .i64 l] 36) := ⟨_, rfl⟩
  have hBw : B < w.heap.size := hW.lt
  have hBn : w.heap.size ≠ B := by omega
  have HS : Hid (Save B w W) := by show Save B w W; rw [hWd]; exact ((Save.of_later (Later.refl w)).setCell _ _).trans (Save.of_later ((Later.refl _).alloc _))
  have HW : Hid (Win W B (wrap64 (cnt + 1)) (.slice (some ⟨R, 0, none⟩) 1000 1000) p (.slice (some ⟨A, 0, none⟩) m m) sum f t lm) := by show Win W _ _ _ _ _ _ _ _ _; rw [hWd]; exact (hW.setCnt _).keep ((Later.refl _).alloc _)
  have b0 : W.cell? ⟨w.heap.size, 0, none⟩ = some (.int .i64 s) := by rw [hWd]; simp [go_sem]
  have b1 : W.cell? ⟨w.heap.size, 1, none⟩ = some (.bool tt) := by rw [hWd]; simp [go_sem]
  have b2 : W.cell? ⟨w.heap.size, 2, none⟩ = some (.int .i64 l) := by rw [hWd]; simp [go_sem]
  have HO : Hid (OutsUp W R 0 rs 1000) := hO.save HS.out hRB
  have hRw : R < w.heap.size := World.block_lt_of_cell? w _ (hO p hp).1
  have hRn : w.heap.size ≠ R := by omega
  obtain ⟨c0, c1, c2⟩ := HO.out p hp
  rw [he, Nat.zero_add] at c0 c1 c2
  have hRW : R < W.heap.size := World.block_lt_of_cell? W _ c0
  have hpi : (p : Int) < 1000 := by omega
  have hBR : B ≠ R := fun h => hRB h.symm
  have HX : Hid (IntsW w A 0 xs) := hx
  have HN : Hid (xs.length = m) := hn
  have hm : m ≤ 1000 := by omega
  have HME : Hid (el ∈ xs) := fig_mem es et el HP1.out HFG.out he0
  have HE0 : Hid (es ≠ 0) := he0
  have hd : (es == 0) = false := by simpa using he0
  have hAW : Hid (A < w.heap.size) := hAw
  clear hx hn he0 hAw
  have hd2 : (s == 0) = false := by simpa using hs0
  have HS0 : Hid (s ≠ 0) := hs0
  clear hs0
  have HRN : Hid (rs.length = 1000) := hrn
  obtain ⟨p3, p4, p5, p6, p7, p8, p9, p10, pz⟩ := hW
  have pz3 := pz 3
  have ⟨m3, m4, m5, m6, m7, m8, m9, m10, mz⟩ := HW.out
  have hBW : B < W.heap.size := HW.out.lt
  have hnB : W.heap.size ≠ B := by omega
  have hnR : W.heap.size ≠ R := by omega
  clear hO hrn m3 m6 m7 m8 m9 m10 mz p5 p6 p7 p8 p9 p10 pz hfig hsr hbd hev hbd2 he
  go_enter Try.func33, Try.ntmps33
  go_wp2_with fail
  rw [← hWd]
  clear hWd p3 p4 pz3
  go_region
  obtain ⟨W2, hW2d⟩ : ∃ W2, W2 = (W.alloc (.cells #[.int .i64 es, .bool et, .int .i64 el] 36)).drew := ⟨_, rfl⟩
  have hL2 : Later W W2 := by rw [hW2d]; exact ((Later.refl W).alloc _).drew
  have HS2 : Hid (Save B w W2) := HS.out.trans (Save.of_later hL2)
  have HW2 : Hid (Win W2 B (wrap64 (cnt + 1)) (.slice (some ⟨R, 0, none⟩) 1000 1000) p (.slice (some ⟨A, 0, none⟩) m m) sum f t lm) := HW.out.keep hL2
  have HO2 : Hid (OutsUp W2 R 0 rs 1000) := HO.out.keep hL2
  have e0 : W2.cell? ⟨W.heap.size, 0, none⟩ = some (.int .i64 es) := by rw [hW2d]; simp [go_sem]
  have e1 : W2.cell? ⟨W.heap.size, 1, none⟩ = some (.bool et) := by rw [hW2d]; simp [go_sem]
  have e2 : W2.cell? ⟨W.heap.size, 2, none⟩ = some (.int .i64 el) := by rw [hW2d]; simp [go_sem]
  rw [← hW2d]
  replace b0 := hL2.cell b0
  replace b1 := hL2.cell b1
  replace b2 := hL2.cell b2
  have HF2 : Hid (Free W2 R (1000 * 3)) := (fun j hj => by
    obtain ⟨⟨v, hv⟩, hf⟩ := hF j hj
    exact ⟨⟨v, HS2.out.cell hRB hv⟩, HS2.out.frozen hRB hv hf⟩)
  obtain ⟨⟨v0, r0⟩, f0⟩ := HF2.out (p * 3) (by omega)
  obtain ⟨⟨v1, r1⟩, f1⟩ := HF2.out (p * 3 + 1) (by omega)
  obtain ⟨⟨v2, r2⟩, f2⟩ := HF2.out (p * 3 + 2) (by omega)
  have ⟨_, m4', m5', _, _, _, _, _, mz⟩ := HW2.out
  have mz5 := mz 5
  clear hW2d mz m4 m5 c0 c1 c2 HS HW HO hF hL2
  go_wp2_with fail
  go_region
  go_wp2_with fail
  obtain ⟨W3, hW3d⟩ : ∃ W3, W3 = ((set3 W2 R (p * 3) (s, tt, l)).setCell ⟨B, 5, none⟩ (.int .i64 (((p : Int) + 1) % 1000))).drew := ⟨_, rfl⟩
  have hSR : Save R W2 (set3 W2 R (p * 3) (s, tt, l)) := save_set3 _ _
  have hSB : Save B (set3 W2 R (p * 3) (s, tt, l)) W3 := by rw [hW3d]; exact ((Save.of_later (Later.refl _)).setCell _ _).drew
  have HW3 : Hid (Win W3 B (wrap64 (cnt + 1)) (.slice (some ⟨R, 0, none⟩) 1000 1000) (((p : Int) + 1) % 1000) (.slice (some ⟨A, 0, none⟩) m m) sum f t lm) := by
    show Win W3 _ _ _ _ _ _ _ _ _
    rw [hW3d]; exact ((HW2.out.other hSR hBR).setNxt _).keep (Later.refl _).drew
  have HO3 : Hid (OutsUp W3 R 0 (rs.set p (s, tt, l)) 1000) := (outs_set (s, tt, l) HO2.out HF2.out hp HRN.out).save hSB hRB
  have HB3 : Hid (Below M w W3) := by
    have h1 : Below M w W2 := Below.mono (HS2.out.below (Nat.le_of_lt hBw)) hMB
    have h2 : Below M W2 (set3 W2 R (p * 3) (s, tt, l)) := below_set3 (Below.refl _ _) hMR _
    have h3 : Below M (set3 W2 R (p * 3) (s, tt, l)) W3 := ⟨hSB.os, hSB.tape, hSB.output, hSB.size, fun k hk => hSB.block k (by have := h1.size; have := h2.size; omega) (by omega)⟩
    exact (h1.trans h2).trans h3
  have hM3 : M ≤ W3.heap.size := by have := HB3.out.size; omega
  replace b0 := hSB.cell (a := ⟨w.heap.size, 0, none⟩) hBn (hSR.cell (a := ⟨w.heap.size, 0, none⟩) hRn b0)
  replace b1 := hSB.cell (a := ⟨w.heap.size, 1, none⟩) hBn (hSR.cell (a := ⟨w.heap.size, 1, none⟩) hRn b1)
  replace b2 := hSB.cell (a := ⟨w.heap.size, 2, none⟩) hBn (hSR.cell (a := ⟨w.heap.size, 2, none⟩) hRn b2)
  replace e0 := hSB.cell (a := ⟨W.heap.size, 0, none⟩) hnB (hSR.cell (a := ⟨W.heap.size, 0, none⟩) hnR e0)
  replace e1 := hSB.cell (a := ⟨W.heap.size, 1, none⟩) hnB (hSR.cell (a := ⟨W.heap.size, 1, none⟩) hnR e1)
  replace e2 := hSB.cell (a := ⟨W.heap.size, 2, none⟩) hnB (hSR.cell (a := ⟨W.heap.size, 2, none⟩) hnR e2)
  have HX3 : Hid (IntsW W3 A 0 xs) := ((HX.out.save HS2.out hAB).save hSR hAR).save hSB hAB
  have HA3 : Hid (A < W3.heap.size) := by have := hAW.out; have := HB3.out.size; show A < _; omega
  have HFIN : Hid (∀ ys, Srt ys → ys.Perm (l :: er xs (lowB xs el)) → figB ys (wrap64 (sum + wrap64 (l - el))) (up (failB s) (dn (failB es) f)) (up tt (dn et t)) (up (s == 429) (dn (es == 429) lm)) (rs.set p (s, tt, l)) = true) :=
    fun ys h1 h2 => replace_law es et el s tt l HP1.out HP2.out HFG.out HE0.out HS0.out h1 h2
  have EV : Hid (Calls Try.prog 37 #[.pointer (some ⟨B, 0, none⟩), .agg #[.int .i64 es, .bool et, .int .i64 el], .int .i64 (-1)] W3 fun e w' => e = .returned (.tuple #[]) ∧ Save B W3 w' ∧
      Win w' B (wrap64 (cnt + 1)) (.slice (some ⟨R, 0, none⟩) 1000 1000) (((p : Int) + 1) % 1000) (.slice (some ⟨A, 0, none⟩) m m) sum (dn (failB es) f) (dn et t) (dn (es == 429) lm)) :=
    tally_down B _ _ _ _ sum f t lm es et el W3 HW3.out BF.out BT.out BL.out
  rw [hW3d] at EV
  refine EV.out.mono ?_
  rw [← hW3d]
  rintro e w4 ⟨rfl, hS4, hW4⟩
  clear EV
  clear hW3d r0 r1 r2 f0 f1 f2 m4' m5' mz5 hSR hSB HW2 HO2 HF2 HS2 HW3
  replace b0 := hS4.cell (a := ⟨w.heap.size, 0, none⟩) hBn b0
  replace b1 := hS4.cell (a := ⟨w.heap.size, 1, none⟩) hBn b1
  replace b2 := hS4.cell (a := ⟨w.heap.size, 2, none⟩) hBn b2
  replace e2 := hS4.cell (a := ⟨W.heap.size, 2, none⟩) hnB e2
  have EU : Hid (Calls Try.prog 37 #[.pointer (some ⟨B, 0, none⟩), .agg #[.int .i64 s, .bool tt, .int .i64 l], .int .i64 1] w4 fun e w' => e = .returned (.tuple #[]) ∧ Save B w4 w' ∧
      Win w' B (wrap64 (cnt + 1)) (.slice (some ⟨R, 0, none⟩) 1000 1000) (((p : Int) + 1) % 1000) (.slice (some ⟨A, 0, none⟩) m m) sum (up (failB s) (dn (failB es) f)) (up tt (dn et t)) (up (s == 429) (dn (es == 429) lm))) :=
    tally_up B _ _ _ _ sum _ _ _ s tt l w4 hW4 BF2.out BT2.out BL2.out
  go_wp2_with fail
  refine EU.out.mono ?_
  rintro e w5 ⟨rfl, hS5, hW5⟩
  clear EU
  replace b2 := hS5.cell (a := ⟨w.heap.size, 2, none⟩) hBn b2
  replace e2 := hS5.cell (a := ⟨W.heap.size, 2, none⟩) hnB e2
  have ER : Hid (Calls Try.prog 38 #[.pointer (some ⟨B, 0, none⟩), .int .i64 el, .int .i64 l] w5 fun e w' => e = .returned (.tuple #[]) ∧ Save2 A B w5 w' ∧
      ∃ ys, Win w' B (wrap64 (cnt + 1)) (.slice (some ⟨R, 0, none⟩) 1000 1000) (((p : Int) + 1) % 1000) (.slice (some ⟨A, 0, none⟩) m m) (wrap64 (sum + wrap64 (l - el))) (up (failB s) (dn (failB es) f)) (up tt (dn et t)) (up (s == 429) (dn (es == 429) lm)) ∧ IntsAt w' A 0 ys ∧ ys.length = m ∧ Srt ys ∧ ys.Perm (l :: er xs (lowB xs el))) :=
    replace_any B A _ _ _ m xs sum _ _ _ el l w5 hW5 ((HX3.out.save hS4 hAB).save hS5 hAB) HN.out hAB HSR.out hm HME.out
  go_wp2_with fail
  refine ER.out.mono ?_
  rintro e w6 ⟨rfl, hS6, ys, hW6, hI6, hl6, hs6, hq6⟩
  clear ER
  go_wp2
  go_end0
  have hRA : R ≠ A := fun h => hAR h.symm
  have hS : Save2 A B W3 w6 := (hS4.two.trans hS5.two).trans hS6
  exact ⟨rfl, HB3.out.trans (hS.below hMA hMB hM3), some ⟨A, 0, none⟩, m, m, ys, _, _, _, _, hW6, ⟨hl6, .inr ⟨A, 0, rfl, Nat.lt_of_lt_of_le HA3.out hS.size, hI6⟩⟩, HO3.out.save2 hS hRA hRB, HFIN.out ys hs6 hq6⟩
end Go.Proofs.Qxb6612353a
