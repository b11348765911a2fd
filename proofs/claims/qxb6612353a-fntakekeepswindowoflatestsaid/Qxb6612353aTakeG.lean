/-
  'take' into a window that is not full.
-/
import Derived.Test.Qxb6612353aPlain3
import Derived.Deep.RegionLawGrows
namespace Go.Proofs.Qxb6612353a
open Go.RowKit
set_option linter.unusedVariables false

theorem outs_cells {w : World} {b off n : Nat} {rs : List O} (hn : rs.length = n) (h : OutsUp w b off rs n) (j : Nat) (u : Value) (hj : (outCells rs)[j]? = some u) : w.cell? ((⟨b, off, none⟩ : Addr).add j) = some u := by
  have hl : j < n * 3 := by have := (List.getElem?_eq_some_iff.1 hj).1; rw [outCells_len, hn] at this; exact this
  have hq : j / 3 < n := by omega
  obtain ⟨a0, a1, a2⟩ := outCells_at rs (j / 3) (by omega)
  obtain ⟨c0, c1, c2⟩ := h (j / 3) hq
  rw [Addr.add_lit]
  have hm : j % 3 = 0 ∨ j % 3 = 1 ∨ j % 3 = 2 := by omega
  rcases hm with hm | hm | hm
  · have e : j / 3 * 3 = j := by omega
    rw [e] at a0 c0
    rw [a0] at hj; rw [c0]; exact hj
  · have e : j / 3 * 3 + 1 = j := by omega
    rw [Nat.add_assoc, e] at c1
    rw [e] at a1
    rw [a1] at hj; rw [c1]; exact hj
  · have e : j / 3 * 3 + 2 = j := by omega
    rw [Nat.add_assoc, e] at c2
    rw [e] at a2
    rw [a2] at hj; rw [c2]; exact hj
theorem cells3e {w : World} {s l : Int} {t : Bool} {e : Nat} : ∀ (j : Nat) (u : Value), ([.int .i64 s, .bool t, .int .i64 l] : List Value)[j]? = some u → (w.alloc (.cells #[.int .i64 s, .bool t, .int .i64 l] e)).cell? ((⟨w.heap.size, 0, none⟩ : Addr).add j) = some u := by
  intro j u hj
  match j, hj with
  | 0, hj => simp at hj; subst hj; simp [Addr.add]
  | 1, hj => simp at hj; subst hj; simp [Addr.add]
  | 2, hj => simp at hj; subst hj; simp [Addr.add]
theorem own_result3 {w w' : World} {e n : Nat} {v' : Value} {rs : List O} (hn : rs.length = n + 1) (h : w'.ownsRow w.heap.size e 3 v' (n + 1) (outCells rs)) : ∃ g cap', v' = .slice (some ⟨g, 0, none⟩) (n + 1) cap' ∧ w.heap.size ≤ g ∧ g < w'.heap.size ∧ OutsUp w' g 0 rs (n + 1) := by
  rcases h.2 with ⟨_, h0⟩ | ⟨g, cap', cur, rfl, hg, hh, _⟩
  · omega
  · exact ⟨g, cap', rfl, hg, (Array.getElem?_eq_some_iff.1 hh).1, outs_of_own hn h⟩

set_option maxHeartbeats 4000000 in
set_option maxRecDepth 100000 in
theorem take_grow (B : Nat) (cnt : Int) (ra : Option Addr) (n : Nat) (rs : List O) (nxt : Int) (a : Option Addr) (m : Nat) (xs : List Int) (sum f t lm : Int) (s : Int) (tt : Bool) (l : Int) (w : World)
    (hW : Win w B cnt (.slice ra n n) nxt (.slice a m m) sum f t lm) (hrn : rs.length = n) (hr : (ra = none ∧ n = 0) ∨ ∃ R, ra = some ⟨R, 0, none⟩ ∧ OutsUp w R 0 rs n ∧ R ≠ B) (hlt : n < 1000)
    (hx : SlB w B a m xs) (hs : Srt xs) (hle : m ≤ 1000) (bf : 0 ≤ f ∧ f ≤ 1001) (bt : 0 ≤ t ∧ t ≤ 1001) (bl : 0 ≤ lm ∧ lm ≤ 1001) :
    Calls Try.prog 33 #[.pointer (some ⟨B, 0, none⟩), .agg #[.int .i64 s, .bool tt, .int .i64 l]] w fun e w' => e = .returned (.tuple #[]) ∧ Save B w w' ∧
      ∃ g gc a' n' c', Win w' B (wrap64 (cnt + 1)) (.slice (some ⟨g, 0, none⟩) (n + 1) gc) nxt (.slice a' n' c') (sumIn s l sum) (up (failB s) f) (up tt t) (up (s == 429) lm) ∧ g < w'.heap.size ∧ OutsUp w' g 0 (rs ++ [(s, tt, l)]) (n + 1) ∧ SlB w' B a' n' (ansIn s l xs) := by
  obtain ⟨i0, hi, hz0, hz1, hz2⟩ := info_parts Try.info36
  obtain ⟨W, hWd⟩ : ∃ W, W = (w.setCell ⟨B, 3, none⟩ (.int .i64 (wrap64 (cnt + 1)))).alloc (.cells #[.int .i64 s, .bool tt, .int .i64 l] 36) := ⟨_, rfl⟩
  have hBw : B < w.heap.size := hW.lt
  have hBn : w.heap.size ≠ B := by omega
  have HS : Hid (Save B w W) := by show Save B w W; rw [hWd]; exact ((Save.of_later (Later.refl w)).setCell _ _).trans (Save.of_later ((Later.refl _).alloc _))
  have HW : Hid (Win W B (wrap64 (cnt + 1)) (.slice ra n n) nxt (.slice a m m) sum f t lm) := by show Win W _ _ _ _ _ _ _ _ _; rw [hWd]; exact (hW.setCnt _).keep ((Later.refl _).alloc _)
  have HX : Hid (SlB W B a m xs) := hx.save HS.out
  have b0 : W.cell? ⟨w.heap.size, 0, none⟩ = some (.int .i64 s) := by rw [hWd]; simp [go_sem]
  have b1 : W.cell? ⟨w.heap.size, 1, none⟩ = some (.bool tt) := by rw [hWd]; simp [go_sem]
  have b2 : W.cell? ⟨w.heap.size, 2, none⟩ = some (.int .i64 l) := by rw [hWd]; simp [go_sem]
  have HNIL : Hid (ra = none → n = 0 ∧ n = 0) := by
    intro e
    rcases hr with ⟨_, h⟩ | ⟨R, h, _⟩
    · exact ⟨h, h⟩
    · rw [h] at e; cases e
  have HOC : Hid (∀ W', Later W W' → ∀ b, ra = some b → ∀ j u, (outCells rs)[j]? = some u → W'.cell? (b.add j) = some u) := by
    intro W' hl b e j u hj
    rcases hr with ⟨h, _⟩ | ⟨R, h, ho, hRB⟩
    · rw [h] at e; cases e
    · rw [h] at e; cases e
      exact outs_cells hrn ((ho.save HS.out hRB).keep hl) j u hj
  have HL : Hid ((outCells rs).length = n * 3) := by show _ = _; rw [outCells_len, hrn]
  have HRN : Hid ((rs ++ [(s, tt, l)]).length = n + 1) := by show _ = _; simp [hrn]
  have HA : Hid (∀ (w0 : World) (g gc : Nat), Win w0 B (wrap64 (cnt + 1)) (.slice (some ⟨g, 0, none⟩) (n + 1) gc) nxt (.slice a m m) sum f t lm → SlB w0 B a m xs → Calls Try.prog 35 #[.pointer (some ⟨B, 0, none⟩), .agg #[.int .i64 s, .bool tt, .int .i64 l]] w0 fun e w' => e = .returned (.tuple #[]) ∧ Save B w0 w' ∧
      ∃ a' n' c', Win w' B (wrap64 (cnt + 1)) (.slice (some ⟨g, 0, none⟩) (n + 1) gc) nxt (.slice a' n' c') (sumIn s l sum) (up (failB s) f) (up tt t) (up (s == 429) lm) ∧ SlB w' B a' n' (ansIn s l xs)) :=
    fun w0 g gc h1 h2 => admit_any B (wrap64 (cnt + 1)) (.slice (some ⟨g, 0, none⟩) (n + 1) gc) nxt a m xs sum f t lm s tt l w0 h1 h2 hs hle bf bt bl
  obtain ⟨p3, p4, p5, p6, p7, p8, p9, p10, pz⟩ := hW
  have pz3 := pz 3
  have ⟨m3, m4, m5, m6, m7, m8, m9, m10, mz⟩ := HW.out
  have mz4 := mz 4
  have hni : (n : Int) < 1000 := by omega
  have HWS : Hid (w.heap.size < W.heap.size) := World.block_lt_of_cell? W _ b0
  have HBW : Hid (B < W.heap.size) := HW.out.lt
  have n4 : (W.alloc (.cells #[.int .i64 s, .bool tt, .int .i64 l] 36)).cell? ⟨B, 4, none⟩ = some (.slice ra n n) := ((Later.refl W).alloc _).cell m4
  clear hr hrn hx hs bf bt bl m3 m5 m6 m7 m8 m9 m10 mz p5 p6 p7 p8 p9 p10 pz
  go_enter Try.func33, Try.ntmps33
  go_wp2_with fail
  rw [← hWd]
  clear hWd p3 p4 pz3
  go_region_law (refine step_append_grows rfl (.tmp 22) (.tmp 24) 31 rfl 36 i0 _ 3 24 Try.underlying31 hi hz0 hz1 hz2 rfl (by decide) ra n n (outCells rs) (by simp [Act.eval]) HNIL.out HL.out (HOC.out _ (by first | exact ((Later.refl W).alloc _).drew | exact ((Later.refl W).drew).alloc _)) ⟨W.heap.size, 0, none⟩ 1 1 [.int .i64 s, .bool tt, .int .i64 l] (by simp [Act.eval]) rfl (by first | exact cells3e | exact fun j u h => cells3e (w := W) j u h) (by intro u hu; simp at hu; rcases hu with rfl | rfl | rfl <;> rfl) (by omega) (by unfold maxLen; omega) (by omega) ?_; intro v' w3 hown hgrow; obtain ⟨g, gc, rfl, hg1, hg2, hO3⟩ := own_result3 (rs := rs ++ [(s, tt, l)]) HRN.out (by rw [outCells_app]; exact hown); have hL3 : Later W w3 := Later.trans (by first | exact ((Later.refl W).alloc _).drew | exact ((Later.refl W).drew).alloc _) ((Below.refl _ _).grown hgrow (Nat.le_refl _) (fun k h => by cases h)); have k4 := hL3.cell m4; have kf4 := hL3.frozen m4 mz4)
  all_goals
    have hgB : g ≠ B := by have := HBW.out; simp at hg1; omega
    have hSc : Save B w3 (w3.setCell ⟨B, 4, none⟩ (.slice (some ⟨g, 0, none⟩) (n + 1) gc)) := (Save.of_later (Later.refl w3)).setCell _ _
    have HS4 : Hid (Save B w (w3.setCell ⟨B, 4, none⟩ (.slice (some ⟨g, 0, none⟩) (n + 1) gc))) := (HS.out.trans (Save.of_later hL3)).trans hSc
    have HW4 : Hid (Win (w3.setCell ⟨B, 4, none⟩ (.slice (some ⟨g, 0, none⟩) (n + 1) gc)) B (wrap64 (cnt + 1)) (.slice (some ⟨g, 0, none⟩) (n + 1) gc) nxt (.slice a m m) sum f t lm) := (HW.out.keep hL3).setRec _
    have HX4 : Hid (SlB (w3.setCell ⟨B, 4, none⟩ (.slice (some ⟨g, 0, none⟩) (n + 1) gc)) B a m xs) := (HX.out.save (Save.of_later hL3)).save hSc
    have HO4 : Hid (OutsUp (w3.setCell ⟨B, 4, none⟩ (.slice (some ⟨g, 0, none⟩) (n + 1) gc)) g 0 (rs ++ [(s, tt, l)]) (n + 1)) := hO3.save hSc hgB
    have HG4 : Hid (g < (w3.setCell ⟨B, 4, none⟩ (.slice (some ⟨g, 0, none⟩) (n + 1) gc)).heap.size) := Nat.lt_of_lt_of_le hg2 hSc.size
    have q0 := hSc.cell (a := ⟨w.heap.size, 0, none⟩) hBn (hL3.cell b0)
    have q1 := hSc.cell (a := ⟨w.heap.size, 1, none⟩) hBn (hL3.cell b1)
    have q2 := hSc.cell (a := ⟨w.heap.size, 2, none⟩) hBn (hL3.cell b2)
    clear hSc hO3 hL3 hown hgrow m4 mz4 n4 b0 b1 b2 k4 kf4
    generalize w3.setCell ⟨B, 4, none⟩ (.slice (some ⟨g, 0, none⟩) (n + 1) gc) = w4 at *
    go_wp2_with (go_at_call 35; refine (HA.out w4 g gc HW4.out HX4.out).mono ?_; rintro e w5 ⟨rfl, hS5, a', n', c', hW5, hX5⟩)
    refine bodyPost_ret (results_none rfl _ _ _) rfl ?_
    exact ⟨rfl, HS4.out.trans hS5, g, gc, a', n', c', hW5, Nat.lt_of_lt_of_le HG4.out hS5.size, HO4.out.save hS5 hgB, hX5⟩
end Go.Proofs.Qxb6612353a
