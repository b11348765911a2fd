/-
  'admit', 'ZZadmit'.
-/
import Derived.Test.Qxb6612353aTally
import Derived.Deep.RegionWith
namespace Go.Proofs.Qxb6612353a
open Go.RowKit
set_option linter.unusedVariables false

theorem Later.drew {a w : World} (h : Later a w) : Later a w.drew := Below.drew h
theorem SlI.nil {w : World} {a : Option Addr} {n : Nat} {xs : List Int} (h : SlI w a n xs) : a = none → n = 0 := fun e => by
  obtain ⟨_, ⟨_, h⟩ | ⟨b, off, rfl, _⟩⟩ := h
  · exact h
  · cases e

def up (b : Bool) (x : Int) : Int := if b then x + 1 else x
/-- what admit makes of the latencies, and of the sum -/
def ansIn (s l : Int) (xs : List Int) : List Int := if s = 0 then xs else insAt xs (lowB xs l) l
def sumIn (s l sum : Int) : Int := if s = 0 then sum else wrap64 (sum + l)

set_option maxHeartbeats 4000000 in
theorem admit_any (B : Nat) (cnt : Int) (rec : Value) (nxt : Int) (a : Option Addr) (n : Nat) (xs : List Int) (sum f t lm : Int) (s : Int) (tt : Bool) (l : Int) (w : World)
    (hW : Win w B cnt rec nxt (.slice a n n) sum f t lm) (hx : SlB w B a n xs) (hs : Srt xs) (hle : n ≤ 1000) (bf : 0 ≤ f ∧ f ≤ 1001) (bt : 0 ≤ t ∧ t ≤ 1001) (bl : 0 ≤ lm ∧ lm ≤ 1001) :
    Calls Try.prog 35 #[.pointer (some ⟨B, 0, none⟩), .agg #[.int .i64 s, .bool tt, .int .i64 l]] w fun e w' => e = .returned (.tuple #[]) ∧ Save B w w' ∧
      ∃ a' n' c', Win w' B cnt rec nxt (.slice a' n' c') (sumIn s l sum) (up (failB s) f) (up tt t) (up (s == 429) lm) ∧ SlB w' B a' n' (ansIn s l xs) := by
  generalize hf' : up (failB s) f = f'
  generalize ht' : up tt t = t'
  generalize hl' : up (s == 429) lm = lm'
  have HT : Hid (∀ w0 : World, Win w0 B cnt rec nxt (.slice a n n) sum f t lm → Calls Try.prog 37 #[.pointer (some ⟨B, 0, none⟩), .agg #[.int .i64 s, .bool tt, .int .i64 l], .int .i64 1] w0 fun e w' => e = .returned (.tuple #[]) ∧ Save B w0 w' ∧ Win w' B cnt rec nxt (.slice a n n) sum f' t' lm') := by
    intro w0 h0
    have := tally_up B cnt rec nxt (.slice a n n) sum f t lm s tt l w0 h0 bf bt bl
    have e1 : (if failB s then f + 1 else f) = f' := hf'
    have e2 : (if tt then t + 1 else t) = t' := ht'
    have e3 : (if s == 429 then lm + 1 else lm) = lm' := hl'
    rw [e1, e2, e3] at this
    exact this
  have HW : Hid (Win w B cnt rec nxt (.slice a n n) sum f t lm) := hW
  have hBw : B < w.heap.size := hW.lt
  have hBn : w.heap.size ≠ B := by omega
  have HX : Hid (SlB w B a n xs) := hx
  have HS : Hid (Srt xs) := hs
  clear hf' ht' hl' hW hx hs bf bt bl
  by_cases hs0 : s = 0
  · have hd : (s == 0) = true := by simpa using hs0
    have E1 : Hid (ansIn s l xs = xs) := by show _ = _; simp [ansIn, hs0]
    have E2 : Hid (sumIn s l sum = sum) := by show _ = _; simp [sumIn, hs0]
    clear hs0
    go_enter Try.func35, Try.ntmps35
    go_wp2_with (go_at_call 37; refine (HT.out _ (HW.out.keep ((Later.refl w).alloc _))).mono ?_; rintro e w1 ⟨rfl, hS1, hW1⟩; have b0 : w1.cell? ⟨w.heap.size, 0, none⟩ = some (.int .i64 s) := hS1.cell hBn (by simp))
    refine bodyPost_ret (results_none rfl _ _ _) rfl ?_
    have hS2 : Save B w w1 := (Save.of_later ((Later.refl w).alloc _)).trans hS1
    refine ⟨rfl, hS2, a, n, n, ?_, ?_⟩
    · rw [E2.out]; exact hW1
    · rw [E1.out]; exact HX.out.save hS2
  · have hd : (s == 0) = false := by simpa using hs0
    have E1 : Hid (ansIn s l xs = insAt xs (lowB xs l) l) := by show _ = _; simp [ansIn, hs0]
    have E2 : Hid (sumIn s l sum = wrap64 (sum + l)) := by show _ = _; simp [sumIn, hs0]
    clear hs0
    go_enter Try.func35, Try.ntmps35
    go_wp2_with (go_at_call 37; refine (HT.out _ (HW.out.keep ((Later.refl w).alloc _))).mono ?_; rintro e w1 ⟨rfl, hS1, hW1⟩; have b0 : w1.cell? ⟨w.heap.size, 0, none⟩ = some (.int .i64 s) := hS1.cell hBn (by simp))
    have b2 : w1.cell? ⟨w.heap.size, 2, none⟩ = some (.int .i64 l) := hS1.cell hBn (by simp)
    have HS2 : Hid (Save B w w1) := (Save.of_later ((Later.refl w).alloc _)).trans hS1
    have HX1 : Hid (SlB w1 B a n xs) := HX.out.save HS2.out
    have HW1 : Hid (Win w1 B cnt rec nxt (.slice a n n) sum f' t' lm') := hW1
    obtain ⟨_, _, _, a6, a7, _, _, _, hz⟩ := hW1
    have hz6 := hz 6
    have hz7 := hz 7
    have HD : Hid (w.heap.size < w1.heap.size) := World.block_lt_of_cell? w1 _ b0
    clear hS1 hz
    have HSI : Hid (∀ q, SlI (w1.drewN q) a n xs) := fun q => HX1.out.1.keep ((Later.refl w1).drewN q)
    have HNI : Hid (a = none → n = 0) := HX1.out.1.nil
    go_quiet ((go_at_call 39; exact Calls.quiet_of_same (search_any a n n xs l _ (by omega) (HSI.out _) HNI.out HS.out)))
    go_wp2
    obtain ⟨W, hW⟩ : ∃ W, W = w1.drewN nq := ⟨_, rfl⟩
    have HS3 : Hid (Save B w W) := by show Save B w W; rw [hW]; exact HS2.out.drewN nq
    have HX3 : Hid (SlB W B a n xs) := by show SlB W B a n xs; rw [hW]; exact HX1.out.save ((Save.of_later (Later.refl w1)).drewN nq)
    have HW3 : Hid (Win W B cnt rec nxt (.slice a n n) sum f' t' lm') := by show Win W _ _ _ _ _ _ _ _ _; rw [hW]; exact HW1.out.keep ((Later.refl w1).drewN nq)
    have c2 : W.cell? ⟨w.heap.size, 2, none⟩ = some (.int .i64 l) := by rw [hW]; exact b2
    have hDW : w.heap.size < W.heap.size := World.block_lt_of_cell? W _ c2
    rw [← hW]
    clear hW b0 b2 a6 a7 hz6 hz7 HS2 HX1 HW1 HSI HNI HD
    obtain ⟨_, _, _, a6, a7, _, _, _, hz⟩ := HW3.out
    have hz6 := hz 6
    have hz7 := hz 7
    have hBW : B < W.heap.size := HW3.out.lt
    clear hz
    have HLO : Hid (lowB xs l ≤ n) := by have := (low_spec xs l HS.out).1; rw [HX3.out.1.1] at this; exact this
    have HSK : Hid (∀ W', Later W W' → SlI W' a n xs) := fun W' hl => HX3.out.1.keep hl
    generalize lowB xs l = at0 at *
    go_region_with (first | (go_at_call 40; refine (insert_any a n at0 W.heap.size xs l _ (by omega) HLO.out (HSK.out _ (by first | exact ((Later.refl W).alloc _).drew | exact ((Later.refl W).drew).alloc _)) (by simp)).mono ?_; rintro e w2 ⟨g, cap', rfl, hg1, hg2, hI2, hl2⟩; have hlW : Later W w2 := Later.trans (by first | exact ((Later.refl W).alloc _).drew | exact ((Later.refl W).drew).alloc _) hl2; have k6 := hlW.cell a6; have kf6 := hlW.frozen a6 hz6))
    all_goals
      have k7 := hlW.cell a7
      have kf7 := hlW.frozen a7 hz7
      have k2 := hlW.cell c2
      have hgB : g ≠ B := by simp at hg1; omega
      have hgB' : B ≠ g := fun h => hgB h.symm
      have F1 : Hid (Save B w ((w2.setCell ⟨B, 6, none⟩ (.slice (some ⟨g, 0, none⟩) (n + 1) cap')).setCell ⟨B, 7, none⟩ (.int .i64 (wrap64 (sum + l)))).drew) := (((HS3.out.trans (Save.of_later hlW)).setCell _ _).setCell _ _).drew
      have F2 : Hid (Win ((w2.setCell ⟨B, 6, none⟩ (.slice (some ⟨g, 0, none⟩) (n + 1) cap')).setCell ⟨B, 7, none⟩ (.int .i64 (wrap64 (sum + l)))).drew B cnt rec nxt (.slice (some ⟨g, 0, none⟩) (n + 1) cap') (wrap64 (sum + l)) f' t' lm') := (((HW3.out.keep hlW).setAns _).setSum _).keep (Later.refl _).drew
      have F3 : Hid (SlB ((w2.setCell ⟨B, 6, none⟩ (.slice (some ⟨g, 0, none⟩) (n + 1) cap')).setCell ⟨B, 7, none⟩ (.int .i64 (wrap64 (sum + l)))).drew B (some ⟨g, 0, none⟩) (n + 1) (insAt xs at0 l)) := by
        have hS : Save B w2 ((w2.setCell ⟨B, 6, none⟩ (.slice (some ⟨g, 0, none⟩) (n + 1) cap')).setCell ⟨B, 7, none⟩ (.int .i64 (wrap64 (sum + l)))).drew := (((Save.of_later (Later.refl w2)).setCell _ _).setCell _ _).drew
        exact SlB.save ⟨⟨by rw [insAt_len, HX3.out.1.1], .inr ⟨g, 0, rfl, hg2, hI2⟩⟩, fun x hx => by cases hx; exact hgB⟩ hS
      clear hI2 hl2 hlW a6 a7 hz6 hz7 c2
      go_wp2
      go_region
      go_end0
      exact ⟨rfl, F1.out, some ⟨g, 0, none⟩, n + 1, cap', by rw [E2.out]; exact F2.out, by rw [E1.out]; exact F3.out⟩

set_option maxHeartbeats 1000000 in
theorem zzadmit_any (B : Nat) (cnt : Int) (rec : Value) (nxt : Int) (a : Option Addr) (n : Nat) (xs : List Int) (sum f t lm : Int) (s : Int) (tt : Bool) (l : Int) (w : World)
    (hW : Win w B cnt rec nxt (.slice a n n) sum f t lm) (hx : SlB w B a n xs) (hs : Srt xs) (hle : n ≤ 1000) (bf : 0 ≤ f ∧ f ≤ 1001) (bt : 0 ≤ t ∧ t ≤ 1001) (bl : 0 ≤ lm ∧ lm ≤ 1001) :
    Calls Try.prog 28 #[.pointer (some ⟨B, 0, none⟩), .agg #[.int .i64 s, .bool tt, .int .i64 l]] w fun e w' => e = .returned (.tuple #[]) ∧ Save B w w' ∧
      ∃ a' n' c', Win w' B cnt rec nxt (.slice a' n' c') (sumIn s l sum) (up (failB s) f) (up tt t) (up (s == 429) lm) ∧ SlB w' B a' n' (ansIn s l xs) := by
  have HA : Hid (∀ w0 : World, Later w w0 → Calls Try.prog 35 #[.pointer (some ⟨B, 0, none⟩), .agg #[.int .i64 s, .bool tt, .int .i64 l]] w0 fun e w' => e = .returned (.tuple #[]) ∧ Save B w0 w' ∧
      ∃ a' n' c', Win w' B cnt rec nxt (.slice a' n' c') (sumIn s l sum) (up (failB s) f) (up tt t) (up (s == 429) lm) ∧ SlB w' B a' n' (ansIn s l xs)) :=
    fun w0 hl => admit_any B cnt rec nxt a n xs sum f t lm s tt l w0 (hW.keep hl) (hx.save (Save.of_later hl)) hs hle bf bt bl
  clear hW hx hs bf bt bl
  go_enter Try.func28, Try.ntmps28
  go_wp2_with (go_at_call 35; refine (HA.out _ ((Later.refl w).alloc _)).mono ?_; rintro e w1 ⟨rfl, hS, hE⟩)
  go_end0
  exact ⟨rfl, (Save.of_later ((Later.refl w).alloc _)).trans hS, hE⟩
end Go.Proofs.Qxb6612353a
