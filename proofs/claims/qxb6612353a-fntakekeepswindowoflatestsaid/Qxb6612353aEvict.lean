/-
  'evict'.
-/
import Derived.Test.Qxb6612353aDel
namespace Go.Proofs.Qxb6612353a
open Go.RowKit
set_option linter.unusedVariables false

/-- Nothing that was there has turned, but maybe the blocks A and B. -/
structure Save2 (A B : Nat) (w w' : World) : Prop where
  os : w'.os = w.os
  tape : w'.tape = w.tape
  output : w'.output = w.output
  size : w.heap.size ≤ w'.heap.size
  block : ∀ k, k < w.heap.size → k ≠ A → k ≠ B → w'.heap[k]? = w.heap[k]?
theorem Save.two {A B : Nat} {w w' : World} (h : Save B w w') : Save2 A B w w' := ⟨h.os, h.tape, h.output, h.size, fun k hk _ hb => h.block k hk hb⟩
theorem Save.one {A B : Nat} {w w' : World} (h : Save A w w') : Save2 A B w w' := ⟨h.os, h.tape, h.output, h.size, fun k hk ha _ => h.block k hk ha⟩
theorem Save2.trans {A B : Nat} {a b c : World} (h : Save2 A B a b) (k : Save2 A B b c) : Save2 A B a c :=
  ⟨k.os.trans h.os, k.tape.trans h.tape, k.output.trans h.output, Nat.le_trans h.size k.size, fun i hi hA hB => (k.block i (Nat.lt_of_lt_of_le hi h.size) hA hB).trans (h.block i hi hA hB)⟩
theorem Save2.cell {A B : Nat} {w w' : World} (h : Save2 A B w w') {a : Addr} {v : Value} (ha : a.block ≠ A) (hb : a.block ≠ B) (hc : w.cell? a = some v) : w'.cell? a = some v :=
  (World.cell?_of_block (w := w) (h.block a.block (World.block_lt_of_cell? w _ hc) ha hb)).trans hc
theorem Save2.below {A B M : Nat} {w w' : World} (h : Save2 A B w w') (hA : M ≤ A) (hB : M ≤ B) (hM : M ≤ w.heap.size) : Below M w w' := ⟨h.os, h.tape, h.output, h.size, fun k hk => h.block k (by omega) (by omega) (by omega)⟩
theorem OutsUp.save2 {A B : Nat} {w w' : World} {b off : Nat} {rs : List O} {k : Nat} (h : OutsUp w b off rs k) (hs : Save2 A B w w') (ha : b ≠ A) (hb : b ≠ B) : OutsUp w' b off rs k := fun j hj => ⟨hs.cell ha hb (h j hj).1, hs.cell ha hb (h j hj).2.1, hs.cell ha hb (h j hj).2.2⟩
theorem Win.other {w w' : World} {A B : Nat} {cnt : Int} {rec : Value} {nxt : Int} {ans : Value} {sum f t l : Int} (h : Win w B cnt rec nxt ans sum f t l) (hs : Save A w w') (hb : B ≠ A) : Win w' B cnt rec nxt ans sum f t l := by
  have hB := h.lt
  obtain ⟨a3, a4, a5, a6, a7, a8, a9, a10, hz⟩ := h
  exact ⟨hs.cell hb a3, hs.cell hb a4, hs.cell hb a5, hs.cell hb a6, hs.cell hb a7, hs.cell hb a8, hs.cell hb a9, hs.cell hb a10, fun j => (World.frozen?_of_block (a := ⟨B, j, none⟩) (hs.block B hB hb)).trans (hz j)⟩

def dn (b : Bool) (x : Int) : Int := if b then x - 1 else x
theorem low_mem (xs : List Int) (x : Int) (hs : Srt xs) (h : x ∈ xs) : lowB xs x < xs.length ∧ xs.getD (lowB xs x) 0 = x := by
  obtain ⟨h1, h2, h3⟩ := low_spec xs x hs
  obtain ⟨k, hk, rfl⟩ := List.mem_iff_getElem.1 h
  have ek : xs.getD k 0 = xs[k] := by simp [List.getD, hk]
  have hlk : lowB xs xs[k] ≤ k := by
    rcases Nat.lt_or_ge k (lowB xs xs[k]) with c | c
    · have := h2 k c; omega
    · exact c
  have hlt : lowB xs xs[k] < xs.length := by omega
  refine ⟨hlt, ?_⟩
  have a1 := h3 (lowB xs xs[k]) (Nat.le_refl _) hlt
  have a2 := srt_at xs hs (lowB xs xs[k]) k hlk hk
  omega

set_option maxHeartbeats 2000000 in
theorem evict_zero (B : Nat) (cnt : Int) (rec : Value) (nxt : Int) (ans : Value) (sum f t lm : Int) (s : Int) (tt : Bool) (l : Int) (w : World)
    (hW : Win w B cnt rec nxt ans sum f t lm) (hs0 : s = 0) (bf : 0 ≤ f ∧ f ≤ 1001) (bt : 0 ≤ t ∧ t ≤ 1001) (bl : 0 ≤ lm ∧ lm ≤ 1001) :
    Calls Try.prog 36 #[.pointer (some ⟨B, 0, none⟩), .agg #[.int .i64 s, .bool tt, .int .i64 l]] w fun e w' => e = .returned (.tuple #[]) ∧ Save B w w' ∧
      Win w' B cnt rec nxt ans sum (dn (failB s) f) (dn tt t) (dn (s == 429) lm) := by
  generalize hf' : dn (failB s) f = f'
  generalize ht' : dn tt t = t'
  generalize hl' : dn (s == 429) lm = lm'
  have HT : Hid (∀ w0 : World, Win w0 B cnt rec nxt ans sum f t lm → Calls Try.prog 37 #[.pointer (some ⟨B, 0, none⟩), .agg #[.int .i64 s, .bool tt, .int .i64 l], .int .i64 (-1)] w0 fun e w' => e = .returned (.tuple #[]) ∧ Save B w0 w' ∧ Win w' B cnt rec nxt ans sum f' t' lm') := by
    intro w0 h0
    have := tally_down B cnt rec nxt ans sum f t lm s tt l w0 h0 bf bt bl
    have e1 : (if failB s then f - 1 else f) = f' := hf'
    have e2 : (if tt then t - 1 else t) = t' := ht'
    have e3 : (if s == 429 then lm - 1 else lm) = lm' := hl'
    rw [e1, e2, e3] at this
    exact this
  have HW : Hid (Win w B cnt rec nxt ans sum f t lm) := hW
  have hBw : B < w.heap.size := hW.lt
  have hBn : w.heap.size ≠ B := by omega
  clear hf' ht' hl' hW bf bt bl
  have hd : (s == 0) = true := by simpa using hs0
  clear hs0
  go_enter Try.func36, Try.ntmps36
  go_wp2_with (go_at_call 37; refine (HT.out _ (HW.out.keep ((Later.refl w).alloc _))).mono ?_; rintro e w1 ⟨rfl, hS1, hW1⟩; have b0 : w1.cell? ⟨w.heap.size, 0, none⟩ = some (.int .i64 s) := hS1.cell hBn (by simp))
  refine bodyPost_ret (results_none rfl _ _ _) rfl ?_
  exact ⟨rfl, (Save.of_later ((Later.refl w).alloc _)).trans hS1, hW1⟩

set_option maxHeartbeats 4000000 in
theorem evict_ans (B A : Nat) (cnt : Int) (rec : Value) (nxt : Int) (n : Nat) (xs : List Int) (sum f t lm : Int) (s : Int) (tt : Bool) (l : Int) (w : World)
    (hW : Win w B cnt rec nxt (.slice (some ⟨A, 0, none⟩) n n) sum f t lm) (hx : IntsW w A 0 xs) (hn : xs.length = n) (hAw : A < w.heap.size) (hAB : A ≠ B) (hs : Srt xs) (hle : n ≤ 1000) (hmem : l ∈ xs) (hs0 : s ≠ 0)
    (bf : 0 ≤ f ∧ f ≤ 1001) (bt : 0 ≤ t ∧ t ≤ 1001) (bl : 0 ≤ lm ∧ lm ≤ 1001) :
    Calls Try.prog 36 #[.pointer (some ⟨B, 0, none⟩), .agg #[.int .i64 s, .bool tt, .int .i64 l]] w fun e w' => e = .returned (.tuple #[]) ∧ Save2 A B w w' ∧
      Win w' B cnt rec nxt (.slice (some ⟨A, 0, none⟩) (n - 1) n) (wrap64 (sum - l)) (dn (failB s) f) (dn tt t) (dn (s == 429) lm) ∧ IntsAt w' A 0 (xs.take (lowB xs l) ++ xs.drop (lowB xs l + 1)) := by
  generalize hf' : dn (failB s) f = f'
  generalize ht' : dn tt t = t'
  generalize hl' : dn (s == 429) lm = lm'
  have HT : Hid (∀ w0 : World, Win w0 B cnt rec nxt (.slice (some ⟨A, 0, none⟩) n n) sum f t lm → Calls Try.prog 37 #[.pointer (some ⟨B, 0, none⟩), .agg #[.int .i64 s, .bool tt, .int .i64 l], .int .i64 (-1)] w0 fun e w' => e = .returned (.tuple #[]) ∧ Save B w0 w' ∧ Win w' B cnt rec nxt (.slice (some ⟨A, 0, none⟩) n n) sum f' t' lm') := by
    intro w0 h0
    have := tally_down B cnt rec nxt (.slice (some ⟨A, 0, none⟩) n n) sum f t lm s tt l w0 h0 bf bt bl
    have e1 : (if failB s then f - 1 else f) = f' := hf'
    have e2 : (if tt then t - 1 else t) = t' := ht'
    have e3 : (if s == 429 then lm - 1 else lm) = lm' := hl'
    rw [e1, e2, e3] at this
    exact this
  have HW : Hid (Win w B cnt rec nxt (.slice (some ⟨A, 0, none⟩) n n) sum f t lm) := hW
  have hBw : B < w.heap.size := hW.lt
  have hBn : w.heap.size ≠ B := by omega
  have hAn : w.heap.size ≠ A := by omega
  have HX : Hid (IntsW w A 0 xs) := hx
  have HN : Hid (xs.length = n) := hn
  have HS : Hid (Srt xs) := hs
  have HLO : Hid (lowB xs l < n) := by have := (low_mem xs l hs hmem).1; rw [hn] at this; exact this
  have hBA : B ≠ A := fun h => hAB h.symm
  clear hf' ht' hl' hW hx hs bf bt bl hn hmem hAw
  have hd : (s == 0) = false := by simpa using hs0
  clear hs0
  go_enter Try.func36, Try.ntmps36
  go_wp2_with (go_at_call 37; refine (HT.out _ (HW.out.keep ((Later.refl w).alloc _))).mono ?_; rintro e w1 ⟨rfl, hS1, hW1⟩; have b0 : w1.cell? ⟨w.heap.size, 0, none⟩ = some (.int .i64 s) := hS1.cell hBn (by simp))
  have b2 : w1.cell? ⟨w.heap.size, 2, none⟩ = some (.int .i64 l) := hS1.cell hBn (by simp)
  have HS2 : Hid (Save B w w1) := (Save.of_later ((Later.refl w).alloc _)).trans hS1
  have HX1 : Hid (IntsW w1 A 0 xs) := HX.out.save HS2.out hAB
  have HW1 : Hid (Win w1 B cnt rec nxt (.slice (some ⟨A, 0, none⟩) n n) sum f' t' lm') := hW1
  obtain ⟨_, _, _, a6, a7, _, _, _, hz⟩ := hW1
  have hz6 := hz 6
  have hz7 := hz 7
  clear hS1 hz
  have HSI : Hid (∀ q, IntsAt (w1.drewN q) A 0 xs) := fun q => (HX1.out.keep ((Later.refl w1).drewN q)).ints
  have hw1 : wrap64 ((lowB xs l : Int) + 1) = (lowB xs l : Int) + 1 := by have := HLO.out; unfold wrap64; omega
  go_quiet ((go_at_call 39; exact Calls.quiet_of_same (search_some A 0 n n xs l _ HN.out (by omega) (HSI.out _) HS.out)))
  go_wp2_with fail
  obtain ⟨W, hW⟩ : ∃ W, W = w1.drewN nq := ⟨_, rfl⟩
  have HS3 : Hid (Save B w W) := by show Save B w W; rw [hW]; exact HS2.out.drewN nq
  have HX3 : Hid (IntsW W A 0 xs) := by show IntsW W A 0 xs; rw [hW]; exact HX1.out.keep ((Later.refl w1).drewN nq)
  have HW3 : Hid (Win W B cnt rec nxt (.slice (some ⟨A, 0, none⟩) n n) sum f' t' lm') := by show Win W _ _ _ _ _ _ _ _ _; rw [hW]; exact HW1.out.keep ((Later.refl w1).drewN nq)
  have c2 : W.cell? ⟨w.heap.size, 2, none⟩ = some (.int .i64 l) := by rw [hW]; exact b2
  rw [← hW]
  clear hW b0 b2 a6 a7 hz6 hz7 HS2 HX1 HW1 HSI
  obtain ⟨_, _, _, a6, a7, _, _, _, hz⟩ := HW3.out
  have hz6 := hz 6
  have hz7 := hz 7
  clear hz
  have HDE : Hid (Calls Try.prog 41 #[.slice (some ⟨A, 0, none⟩) n n, .int .i64 (lowB xs l : Nat), .int .i64 ((lowB xs l : Nat) + 1)] W fun e w' => e = .returned (.slice (some ⟨A, 0, none⟩) (n - 1) n) ∧ IntsAt w' A 0 (xs.take (lowB xs l) ++ xs.drop (lowB xs l + 1)) ∧ Save A W w') := by
    have h := delete_any A 0 n (lowB xs l) (lowB xs l + 1) xs W HN.out (by omega) (by omega) (by have := HLO.out; omega) HX3.out
    rw [show lowB xs l + (n - (lowB xs l + 1)) = n - 1 by have := HLO.out; omega] at h
    exact h
  obtain ⟨ys, hys⟩ : ∃ ys, ys = xs.take (lowB xs l) ++ xs.drop (lowB xs l + 1) := ⟨_, rfl⟩
  rw [← hys] at HDE
  have HY : Hid (ys = xs.take (lowB xs l) ++ xs.drop (lowB xs l + 1)) := hys
  clear hys
  go_wp2_with (go_at_call 41; refine HDE.out.mono ?_; rintro e w2 ⟨rfl, hI2, hS2⟩; have k6 := hS2.cell (a := ⟨B, 6, none⟩) hBA a6; have kf6 := hS2.frozen (a := ⟨B, 6, none⟩) hBA a6 hz6)
  have k7 := hS2.cell (a := ⟨B, 7, none⟩) hBA a7
  have kf7 := hS2.frozen (a := ⟨B, 7, none⟩) hBA a7 hz7
  have k2 := hS2.cell (a := ⟨w.heap.size, 2, none⟩) hAn c2
  have F1 : Hid (Save2 A B w ((w2.setCell ⟨B, 6, none⟩ (.slice (some ⟨A, 0, none⟩) (n - 1) n)).setCell ⟨B, 7, none⟩ (.int .i64 (wrap64 (sum - l)))).drew) := (HS3.out.two.trans hS2.one).trans ((((Save.of_later (Later.refl w2)).setCell 6 _).setCell 7 _).drew).two
  have F2 : Hid (Win ((w2.setCell ⟨B, 6, none⟩ (.slice (some ⟨A, 0, none⟩) (n - 1) n)).setCell ⟨B, 7, none⟩ (.int .i64 (wrap64 (sum - l)))).drew B cnt rec nxt (.slice (some ⟨A, 0, none⟩) (n - 1) n) (wrap64 (sum - l)) f' t' lm') := (((HW3.out.other hS2 hBA).setAns _).setSum _).keep (Later.refl _).drew
  have F3 : Hid (IntsAt ((w2.setCell ⟨B, 6, none⟩ (.slice (some ⟨A, 0, none⟩) (n - 1) n)).setCell ⟨B, 7, none⟩ (.int .i64 (wrap64 (sum - l)))).drew A 0 ys) :=
    hI2.save (B := B) ((((Save.of_later (Later.refl w2)).setCell _ _).setCell _ _).drew) hAB
  clear hI2 hS2 a6 a7 hz6 hz7 c2 HDE
  go_wp2
  go_region
  go_end0
  exact ⟨rfl, F1.out, F2.out, by rw [← HY.out]; exact F3.out⟩
end Go.Proofs.Qxb6612353a
