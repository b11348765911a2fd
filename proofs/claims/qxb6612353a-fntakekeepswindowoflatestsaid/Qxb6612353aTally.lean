/-
  THE WINDOW IN MEMORY; 'tally'.
-/
import Derived.Test.Qxb6612353aInsMid
namespace Go.Proofs.Qxb6612353a
open Go.RowKit
set_option linter.unusedVariables false

theorem insert_any (a : Option Addr) (n i vb : Nat) (xs : List Int) (v : Int) (w : World) (hle : n ≤ 1001) (hin : i ≤ n) (hx : SlI w a n xs) (hv : w.cell? ⟨vb, 0, none⟩ = some (.int .i64 v)) :
    Calls Try.prog 40 #[.slice a n n, .int .i64 i, .slice (some ⟨vb, 0, none⟩) 1 1] w fun e w' => ∃ g cap', e = .returned (.slice (some ⟨g, 0, none⟩) (n + 1) cap') ∧ w.heap.size ≤ g ∧ g < w'.heap.size ∧ IntsAt w' g 0 (insAt xs i v) ∧ Later w w' := by
  obtain ⟨hl, ⟨rfl, rfl⟩ | ⟨b, off, rfl, _, hI⟩⟩ := hx
  · obtain rfl : xs = [] := List.eq_nil_of_length_eq_zero hl
    obtain rfl : i = 0 := by omega
    exact insert_nil vb v w hv
  · by_cases e : i = n
    · subst e
      have e2 : insAt xs i v = xs ++ [v] := by rw [← hl]; exact insAt_end xs v
      rw [e2]
      exact insert_end b off i vb xs v w hl hle hI hv
    · exact insert_mid b off n i vb xs v w hl hle (by omega) hI hv

/-- Nothing that was there has turned, but maybe block B. -/
structure Save (B : Nat) (w w' : World) : Prop where
  os : w'.os = w.os
  tape : w'.tape = w.tape
  output : w'.output = w.output
  size : w.heap.size ≤ w'.heap.size
  block : ∀ k, k < w.heap.size → k ≠ B → w'.heap[k]? = w.heap[k]?
theorem Save.of_later {B : Nat} {w w' : World} (h : Later w w') : Save B w w' := ⟨h.os, h.tape, h.output, h.size, fun k hk _ => h.block k hk⟩
theorem Save.trans {B : Nat} {a b c : World} (h : Save B a b) (k : Save B b c) : Save B a c :=
  ⟨k.os.trans h.os, k.tape.trans h.tape, k.output.trans h.output, Nat.le_trans h.size k.size, fun i hi hB => (k.block i (Nat.lt_of_lt_of_le hi h.size) hB).trans (h.block i hi hB)⟩
theorem Save.setCell {B : Nat} {a w : World} (h : Save B a w) (j : Nat) (u : Value) : Save B a (w.setCell ⟨B, j, none⟩ u) :=
  h.trans ⟨rfl, rfl, rfl, by simp [World.setCell], fun k _ hB => Below.heap_setCell _ _ _ _ hB⟩
theorem Save.drew {B : Nat} {a w : World} (h : Save B a w) : Save B a w.drew := ⟨h.os, h.tape, h.output, h.size, h.block⟩
theorem Save.drewN {B : Nat} {a w : World} (h : Save B a w) (n : Nat) : Save B a (w.drewN n) := ⟨h.os, h.tape, h.output, h.size, h.block⟩
theorem Save.cell {B : Nat} {w w' : World} (h : Save B w w') {a : Addr} {v : Value} (ha : a.block ≠ B) (hc : w.cell? a = some v) : w'.cell? a = some v :=
  (World.cell?_of_block (w := w) (h.block a.block (World.block_lt_of_cell? w _ hc) ha)).trans hc
theorem Save.below {B : Nat} {w w' : World} (h : Save B w w') (hB : B ≤ w.heap.size) : Below B w w' := ⟨h.os, h.tape, h.output, h.size, fun k hk => h.block k (by omega) (by omega)⟩
theorem IntsAt.save {B : Nat} {w w' : World} {b off : Nat} {xs : List Int} (h : IntsAt w b off xs) (hs : Save B w w') (hb : b ≠ B) : IntsAt w' b off xs := fun j hj => hs.cell hb (h j hj)
theorem OutsUp.save {B : Nat} {w w' : World} {b off : Nat} {rs : List O} {k : Nat} (h : OutsUp w b off rs k) (hs : Save B w w') (hb : b ≠ B) : OutsUp w' b off rs k := fun j hj => ⟨hs.cell hb (h j hj).1, hs.cell hb (h j hj).2.1, hs.cell hb (h j hj).2.2⟩
/-- a slice of int64 that does not lie in block B -/
def SlB (w : World) (B : Nat) (a : Option Addr) (n : Nat) (xs : List Int) : Prop := SlI w a n xs ∧ ∀ x, a = some x → x.block ≠ B
theorem SlB.save {B : Nat} {w w' : World} {a : Option Addr} {n : Nat} {xs : List Int} (h : SlB w B a n xs) (hs : Save B w w') : SlB w' B a n xs := by
  obtain ⟨⟨h0, h | ⟨b, off, rfl, hb, hc⟩⟩, hB⟩ := h
  · exact ⟨⟨h0, .inl h⟩, hB⟩
  · exact ⟨⟨h0, .inr ⟨b, off, rfl, Nat.lt_of_lt_of_le hb hs.size, hc.save hs (hB _ rfl)⟩⟩, hB⟩

/-- A window lies at block B. -/
def Win (w : World) (B : Nat) (cnt : Int) (rec : Value) (nxt : Int) (ans : Value) (sum f t l : Int) : Prop :=
  w.cell? ⟨B, 3, none⟩ = some (.int .i64 cnt) ∧ w.cell? ⟨B, 4, none⟩ = some (rec) ∧ w.cell? ⟨B, 5, none⟩ = some (.int .i64 nxt) ∧ w.cell? ⟨B, 6, none⟩ = some (ans) ∧ w.cell? ⟨B, 7, none⟩ = some (.int .i64 sum) ∧ w.cell? ⟨B, 8, none⟩ = some (.int .i64 f) ∧ w.cell? ⟨B, 9, none⟩ = some (.int .i64 t) ∧ w.cell? ⟨B, 10, none⟩ = some (.int .i64 l) ∧ ∀ j, w.frozen? ⟨B, j, none⟩ = false
theorem Win.lt {w : World} {B : Nat} {cnt : Int} {rec : Value} {nxt : Int} {ans : Value} {sum f t l : Int} (h : Win w B cnt rec nxt ans sum f t l) : B < w.heap.size := World.block_lt_of_cell? w _ h.1
theorem Win.keep {w w' : World} {B : Nat} {cnt : Int} {rec : Value} {nxt : Int} {ans : Value} {sum f t l : Int} (h : Win w B cnt rec nxt ans sum f t l) (hl : Later w w') : Win w' B cnt rec nxt ans sum f t l := by
  have hB := h.lt
  obtain ⟨a3, a4, a5, a6, a7, a8, a9, a10, hz⟩ := h
  exact ⟨hl.cell a3, hl.cell a4, hl.cell a5, hl.cell a6, hl.cell a7, hl.cell a8, hl.cell a9, hl.cell a10, fun j => (Below.frozen hl (p := ⟨B, j, none⟩) hB).trans (hz j)⟩
theorem Win.setCnt {w : World} {B : Nat} {cnt : Int} {rec : Value} {nxt : Int} {ans : Value} {sum f t l : Int} (h : Win w B cnt rec nxt ans sum f t l) (x : Int) : Win (w.setCell ⟨B, 3, none⟩ (.int .i64 x)) B x rec nxt ans sum f t l := by
  obtain ⟨a3, a4, a5, a6, a7, a8, a9, a10, hz⟩ := h
  exact ⟨World.cell?_setCell_same _ _ _ a3, (World.cell?_setCell_other _ _ _ _ (by simp)).trans a4, (World.cell?_setCell_other _ _ _ _ (by simp)).trans a5, (World.cell?_setCell_other _ _ _ _ (by simp)).trans a6, (World.cell?_setCell_other _ _ _ _ (by simp)).trans a7, (World.cell?_setCell_other _ _ _ _ (by simp)).trans a8, (World.cell?_setCell_other _ _ _ _ (by simp)).trans a9, (World.cell?_setCell_other _ _ _ _ (by simp)).trans a10, fun j => by rw [World.frozen?_setCell]; exact hz j⟩
theorem Win.setRec {w : World} {B : Nat} {cnt : Int} {rec : Value} {nxt : Int} {ans : Value} {sum f t l : Int} (h : Win w B cnt rec nxt ans sum f t l) (x : Value) : Win (w.setCell ⟨B, 4, none⟩ (x)) B cnt x nxt ans sum f t l := by
  obtain ⟨a3, a4, a5, a6, a7, a8, a9, a10, hz⟩ := h
  exact ⟨(World.cell?_setCell_other _ _ _ _ (by simp)).trans a3, World.cell?_setCell_same _ _ _ a4, (World.cell?_setCell_other _ _ _ _ (by simp)).trans a5, (World.cell?_setCell_other _ _ _ _ (by simp)).trans a6, (World.cell?_setCell_other _ _ _ _ (by simp)).trans a7, (World.cell?_setCell_other _ _ _ _ (by simp)).trans a8, (World.cell?_setCell_other _ _ _ _ (by simp)).trans a9, (World.cell?_setCell_other _ _ _ _ (by simp)).trans a10, fun j => by rw [World.frozen?_setCell]; exact hz j⟩
theorem Win.setNxt {w : World} {B : Nat} {cnt : Int} {rec : Value} {nxt : Int} {ans : Value} {sum f t l : Int} (h : Win w B cnt rec nxt ans sum f t l) (x : Int) : Win (w.setCell ⟨B, 5, none⟩ (.int .i64 x)) B cnt rec x ans sum f t l := by
  obtain ⟨a3, a4, a5, a6, a7, a8, a9, a10, hz⟩ := h
  exact ⟨(World.cell?_setCell_other _ _ _ _ (by simp)).trans a3, (World.cell?_setCell_other _ _ _ _ (by simp)).trans a4, World.cell?_setCell_same _ _ _ a5, (World.cell?_setCell_other _ _ _ _ (by simp)).trans a6, (World.cell?_setCell_other _ _ _ _ (by simp)).trans a7, (World.cell?_setCell_other _ _ _ _ (by simp)).trans a8, (World.cell?_setCell_other _ _ _ _ (by simp)).trans a9, (World.cell?_setCell_other _ _ _ _ (by simp)).trans a10, fun j => by rw [World.frozen?_setCell]; exact hz j⟩
theorem Win.setAns {w : World} {B : Nat} {cnt : Int} {rec : Value} {nxt : Int} {ans : Value} {sum f t l : Int} (h : Win w B cnt rec nxt ans sum f t l) (x : Value) : Win (w.setCell ⟨B, 6, none⟩ (x)) B cnt rec nxt x sum f t l := by
  obtain ⟨a3, a4, a5, a6, a7, a8, a9, a10, hz⟩ := h
  exact ⟨(World.cell?_setCell_other _ _ _ _ (by simp)).trans a3, (World.cell?_setCell_other _ _ _ _ (by simp)).trans a4, (World.cell?_setCell_other _ _ _ _ (by simp)).trans a5, World.cell?_setCell_same _ _ _ a6, (World.cell?_setCell_other _ _ _ _ (by simp)).trans a7, (World.cell?_setCell_other _ _ _ _ (by simp)).trans a8, (World.cell?_setCell_other _ _ _ _ (by simp)).trans a9, (World.cell?_setCell_other _ _ _ _ (by simp)).trans a10, fun j => by rw [World.frozen?_setCell]; exact hz j⟩
theorem Win.setSum {w : World} {B : Nat} {cnt : Int} {rec : Value} {nxt : Int} {ans : Value} {sum f t l : Int} (h : Win w B cnt rec nxt ans sum f t l) (x : Int) : Win (w.setCell ⟨B, 7, none⟩ (.int .i64 x)) B cnt rec nxt ans x f t l := by
  obtain ⟨a3, a4, a5, a6, a7, a8, a9, a10, hz⟩ := h
  exact ⟨(World.cell?_setCell_other _ _ _ _ (by simp)).trans a3, (World.cell?_setCell_other _ _ _ _ (by simp)).trans a4, (World.cell?_setCell_other _ _ _ _ (by simp)).trans a5, (World.cell?_setCell_other _ _ _ _ (by simp)).trans a6, World.cell?_setCell_same _ _ _ a7, (World.cell?_setCell_other _ _ _ _ (by simp)).trans a8, (World.cell?_setCell_other _ _ _ _ (by simp)).trans a9, (World.cell?_setCell_other _ _ _ _ (by simp)).trans a10, fun j => by rw [World.frozen?_setCell]; exact hz j⟩
theorem Win.setF {w : World} {B : Nat} {cnt : Int} {rec : Value} {nxt : Int} {ans : Value} {sum f t l : Int} (h : Win w B cnt rec nxt ans sum f t l) (x : Int) : Win (w.setCell ⟨B, 8, none⟩ (.int .i64 x)) B cnt rec nxt ans sum x t l := by
  obtain ⟨a3, a4, a5, a6, a7, a8, a9, a10, hz⟩ := h
  exact ⟨(World.cell?_setCell_other _ _ _ _ (by simp)).trans a3, (World.cell?_setCell_other _ _ _ _ (by simp)).trans a4, (World.cell?_setCell_other _ _ _ _ (by simp)).trans a5, (World.cell?_setCell_other _ _ _ _ (by simp)).trans a6, (World.cell?_setCell_other _ _ _ _ (by simp)).trans a7, World.cell?_setCell_same _ _ _ a8, (World.cell?_setCell_other _ _ _ _ (by simp)).trans a9, (World.cell?_setCell_other _ _ _ _ (by simp)).trans a10, fun j => by rw [World.frozen?_setCell]; exact hz j⟩
theorem Win.setT {w : World} {B : Nat} {cnt : Int} {rec : Value} {nxt : Int} {ans : Value} {sum f t l : Int} (h : Win w B cnt rec nxt ans sum f t l) (x : Int) : Win (w.setCell ⟨B, 9, none⟩ (.int .i64 x)) B cnt rec nxt ans sum f x l := by
  obtain ⟨a3, a4, a5, a6, a7, a8, a9, a10, hz⟩ := h
  exact ⟨(World.cell?_setCell_other _ _ _ _ (by simp)).trans a3, (World.cell?_setCell_other _ _ _ _ (by simp)).trans a4, (World.cell?_setCell_other _ _ _ _ (by simp)).trans a5, (World.cell?_setCell_other _ _ _ _ (by simp)).trans a6, (World.cell?_setCell_other _ _ _ _ (by simp)).trans a7, (World.cell?_setCell_other _ _ _ _ (by simp)).trans a8, World.cell?_setCell_same _ _ _ a9, (World.cell?_setCell_other _ _ _ _ (by simp)).trans a10, fun j => by rw [World.frozen?_setCell]; exact hz j⟩
theorem Win.setL {w : World} {B : Nat} {cnt : Int} {rec : Value} {nxt : Int} {ans : Value} {sum f t l : Int} (h : Win w B cnt rec nxt ans sum f t l) (x : Int) : Win (w.setCell ⟨B, 10, none⟩ (.int .i64 x)) B cnt rec nxt ans sum f t x := by
  obtain ⟨a3, a4, a5, a6, a7, a8, a9, a10, hz⟩ := h
  exact ⟨(World.cell?_setCell_other _ _ _ _ (by simp)).trans a3, (World.cell?_setCell_other _ _ _ _ (by simp)).trans a4, (World.cell?_setCell_other _ _ _ _ (by simp)).trans a5, (World.cell?_setCell_other _ _ _ _ (by simp)).trans a6, (World.cell?_setCell_other _ _ _ _ (by simp)).trans a7, (World.cell?_setCell_other _ _ _ _ (by simp)).trans a8, (World.cell?_setCell_other _ _ _ _ (by simp)).trans a9, World.cell?_setCell_same _ _ _ a10, fun j => by rw [World.frozen?_setCell]; exact hz j⟩

theorem failed_is (s : Int) (t : Bool) (l : Int) (b : Bool) (h : failB s = b) (w : World) : Calls Try.prog 42 #[.agg #[.int .i64 s, .bool t, .int .i64 l]] w fun e w' => e = .returned (.bool b) ∧ Later w w' := by
  rw [← h]; exact failed_any s t l w

set_option maxHeartbeats 2000000 in
theorem tally_up (B : Nat) (cnt : Int) (rec : Value) (nxt : Int) (ans : Value) (sum f t l : Int) (s : Int) (tt : Bool) (ll : Int) (w : World) (hW : Win w B cnt rec nxt ans sum f t l) (bf : 0 ≤ f ∧ f ≤ 1001) (bt : 0 ≤ t ∧ t ≤ 1001) (bl : 0 ≤ l ∧ l ≤ 1001) :
    Calls Try.prog 37 #[.pointer (some ⟨B, 0, none⟩), .agg #[.int .i64 s, .bool tt, .int .i64 ll], .int .i64 1] w fun e w' => e = .returned (.tuple #[]) ∧ Save B w w' ∧
      Win w' B cnt rec nxt ans sum (if failB s then f + 1 else f) (if tt then t + 1 else t) (if s == 429 then l + 1 else l) := by
  obtain ⟨bf1, bf2⟩ := bf
  obtain ⟨bt1, bt2⟩ := bt
  obtain ⟨bl1, bl2⟩ := bl
  have hBw := hW.lt
  have HW : Hid (Win w B cnt rec nxt ans sum f t l) := hW
  clear hW
  cases ef : failB s <;> cases tt <;> cases el : (s == 429)
  · have HEF : Hid (failB s = false) := ef
    clear ef
    go_enter Try.func37, Try.ntmps37
    go_wp2_with (go_at_call 42; refine (failed_is s false ll false HEF.out _).mono ?_; rintro e w2 ⟨rfl, hl2⟩; have hL2 : Later w w2 := ((Later.refl w).alloc _).trans hl2; obtain ⟨_, _, _, _, _, a8, a9, a10, hz⟩ := HW.out.keep hL2; have b0 : w2.cell? ⟨w.heap.size, 0, none⟩ = some (.int .i64 s) := hl2.cell (by simp); have b1 : w2.cell? ⟨w.heap.size, 1, none⟩ = some (.bool false) := hl2.cell (by simp))
    have hW2 := HW.out.keep hL2
    have hB2 : Save B w w2 := Save.of_later hL2
    go_end0
    exact ⟨rfl, hB2, hW2⟩
  · have HEF : Hid (failB s = false) := ef
    clear ef
    go_enter Try.func37, Try.ntmps37
    go_wp2_with (go_at_call 42; refine (failed_is s false ll false HEF.out _).mono ?_; rintro e w2 ⟨rfl, hl2⟩; have hL2 : Later w w2 := ((Later.refl w).alloc _).trans hl2; obtain ⟨_, _, _, _, _, a8, a9, a10, hz⟩ := HW.out.keep hL2; have b0 : w2.cell? ⟨w.heap.size, 0, none⟩ = some (.int .i64 s) := hl2.cell (by simp); have b1 : w2.cell? ⟨w.heap.size, 1, none⟩ = some (.bool false) := hl2.cell (by simp))
    have hW2 := HW.out.keep hL2
    have hB2 : Save B w w2 := Save.of_later hL2
    go_end0
    exact ⟨rfl, (hB2.setCell _ _), (hW2.setL (l + 1))⟩
  · have HEF : Hid (failB s = false) := ef
    clear ef
    go_enter Try.func37, Try.ntmps37
    go_wp2_with (go_at_call 42; refine (failed_is s true ll false HEF.out _).mono ?_; rintro e w2 ⟨rfl, hl2⟩; have hL2 : Later w w2 := ((Later.refl w).alloc _).trans hl2; obtain ⟨_, _, _, _, _, a8, a9, a10, hz⟩ := HW.out.keep hL2; have b0 : w2.cell? ⟨w.heap.size, 0, none⟩ = some (.int .i64 s) := hl2.cell (by simp); have b1 : w2.cell? ⟨w.heap.size, 1, none⟩ = some (.bool true) := hl2.cell (by simp))
    have hW2 := HW.out.keep hL2
    have hB2 : Save B w w2 := Save.of_later hL2
    go_end0
    exact ⟨rfl, (hB2.setCell _ _), (hW2.setT (t + 1))⟩
  · have HEF : Hid (failB s = false) := ef
    clear ef
    go_enter Try.func37, Try.ntmps37
    go_wp2_with (go_at_call 42; refine (failed_is s true ll false HEF.out _).mono ?_; rintro e w2 ⟨rfl, hl2⟩; have hL2 : Later w w2 := ((Later.refl w).alloc _).trans hl2; obtain ⟨_, _, _, _, _, a8, a9, a10, hz⟩ := HW.out.keep hL2; have b0 : w2.cell? ⟨w.heap.size, 0, none⟩ = some (.int .i64 s) := hl2.cell (by simp); have b1 : w2.cell? ⟨w.heap.size, 1, none⟩ = some (.bool true) := hl2.cell (by simp))
    have hW2 := HW.out.keep hL2
    have hB2 : Save B w w2 := Save.of_later hL2
    go_end0
    exact ⟨rfl, ((hB2.setCell _ _).setCell _ _), ((hW2.setT (t + 1)).setL (l + 1))⟩
  · have HEF : Hid (failB s = true) := ef
    clear ef
    go_enter Try.func37, Try.ntmps37
    go_wp2_with (go_at_call 42; refine (failed_is s false ll true HEF.out _).mono ?_; rintro e w2 ⟨rfl, hl2⟩; have hL2 : Later w w2 := ((Later.refl w).alloc _).trans hl2; obtain ⟨_, _, _, _, _, a8, a9, a10, hz⟩ := HW.out.keep hL2; have b0 : w2.cell? ⟨w.heap.size, 0, none⟩ = some (.int .i64 s) := hl2.cell (by simp); have b1 : w2.cell? ⟨w.heap.size, 1, none⟩ = some (.bool false) := hl2.cell (by simp))
    have hW2 := HW.out.keep hL2
    have hB2 : Save B w w2 := Save.of_later hL2
    go_end0
    exact ⟨rfl, (hB2.setCell _ _), (hW2.setF (f + 1))⟩
  · have HEF : Hid (failB s = true) := ef
    clear ef
    go_enter Try.func37, Try.ntmps37
    go_wp2_with (go_at_call 42; refine (failed_is s false ll true HEF.out _).mono ?_; rintro e w2 ⟨rfl, hl2⟩; have hL2 : Later w w2 := ((Later.refl w).alloc _).trans hl2; obtain ⟨_, _, _, _, _, a8, a9, a10, hz⟩ := HW.out.keep hL2; have b0 : w2.cell? ⟨w.heap.size, 0, none⟩ = some (.int .i64 s) := hl2.cell (by simp); have b1 : w2.cell? ⟨w.heap.size, 1, none⟩ = some (.bool false) := hl2.cell (by simp))
    have hW2 := HW.out.keep hL2
    have hB2 : Save B w w2 := Save.of_later hL2
    go_end0
    exact ⟨rfl, ((hB2.setCell _ _).setCell _ _), ((hW2.setF (f + 1)).setL (l + 1))⟩
  · have HEF : Hid (failB s = true) := ef
    clear ef
    go_enter Try.func37, Try.ntmps37
    go_wp2_with (go_at_call 42; refine (failed_is s true ll true HEF.out _).mono ?_; rintro e w2 ⟨rfl, hl2⟩; have hL2 : Later w w2 := ((Later.refl w).alloc _).trans hl2; obtain ⟨_, _, _, _, _, a8, a9, a10, hz⟩ := HW.out.keep hL2; have b0 : w2.cell? ⟨w.heap.size, 0, none⟩ = some (.int .i64 s) := hl2.cell (by simp); have b1 : w2.cell? ⟨w.heap.size, 1, none⟩ = some (.bool true) := hl2.cell (by simp))
    have hW2 := HW.out.keep hL2
    have hB2 : Save B w w2 := Save.of_later hL2
    go_end0
    exact ⟨rfl, ((hB2.setCell _ _).setCell _ _), ((hW2.setF (f + 1)).setT (t + 1))⟩
  · have HEF : Hid (failB s = true) := ef
    clear ef
    go_enter Try.func37, Try.ntmps37
    go_wp2_with (go_at_call 42; refine (failed_is s true ll true HEF.out _).mono ?_; rintro e w2 ⟨rfl, hl2⟩; have hL2 : Later w w2 := ((Later.refl w).alloc _).trans hl2; obtain ⟨_, _, _, _, _, a8, a9, a10, hz⟩ := HW.out.keep hL2; have b0 : w2.cell? ⟨w.heap.size, 0, none⟩ = some (.int .i64 s) := hl2.cell (by simp); have b1 : w2.cell? ⟨w.heap.size, 1, none⟩ = some (.bool true) := hl2.cell (by simp))
    have hW2 := HW.out.keep hL2
    have hB2 : Save B w w2 := Save.of_later hL2
    go_end0
    exact ⟨rfl, (((hB2.setCell _ _).setCell _ _).setCell _ _), (((hW2.setF (f + 1)).setT (t + 1)).setL (l + 1))⟩

set_option maxHeartbeats 2000000 in
theorem tally_down (B : Nat) (cnt : Int) (rec : Value) (nxt : Int) (ans : Value) (sum f t l : Int) (s : Int) (tt : Bool) (ll : Int) (w : World) (hW : Win w B cnt rec nxt ans sum f t l) (bf : 0 ≤ f ∧ f ≤ 1001) (bt : 0 ≤ t ∧ t ≤ 1001) (bl : 0 ≤ l ∧ l ≤ 1001) :
    Calls Try.prog 37 #[.pointer (some ⟨B, 0, none⟩), .agg #[.int .i64 s, .bool tt, .int .i64 ll], .int .i64 (-1)] w fun e w' => e = .returned (.tuple #[]) ∧ Save B w w' ∧
      Win w' B cnt rec nxt ans sum (if failB s then f - 1 else f) (if tt then t - 1 else t) (if s == 429 then l - 1 else l) := by
  obtain ⟨bf1, bf2⟩ := bf
  obtain ⟨bt1, bt2⟩ := bt
  obtain ⟨bl1, bl2⟩ := bl
  have hBw := hW.lt
  have HW : Hid (Win w B cnt rec nxt ans sum f t l) := hW
  clear hW
  cases ef : failB s <;> cases tt <;> cases el : (s == 429)
  · have HEF : Hid (failB s = false) := ef
    clear ef
    go_enter Try.func37, Try.ntmps37
    go_wp2_with (go_at_call 42; refine (failed_is s false ll false HEF.out _).mono ?_; rintro e w2 ⟨rfl, hl2⟩; have hL2 : Later w w2 := ((Later.refl w).alloc _).trans hl2; obtain ⟨_, _, _, _, _, a8, a9, a10, hz⟩ := HW.out.keep hL2; have b0 : w2.cell? ⟨w.heap.size, 0, none⟩ = some (.int .i64 s) := hl2.cell (by simp); have b1 : w2.cell? ⟨w.heap.size, 1, none⟩ = some (.bool false) := hl2.cell (by simp))
    have hW2 := HW.out.keep hL2
    have hB2 : Save B w w2 := Save.of_later hL2
    go_end0
    exact ⟨rfl, hB2, hW2⟩
  · have HEF : Hid (failB s = false) := ef
    clear ef
    go_enter Try.func37, Try.ntmps37
    go_wp2_with (go_at_call 42; refine (failed_is s false ll false HEF.out _).mono ?_; rintro e w2 ⟨rfl, hl2⟩; have hL2 : Later w w2 := ((Later.refl w).alloc _).trans hl2; obtain ⟨_, _, _, _, _, a8, a9, a10, hz⟩ := HW.out.keep hL2; have b0 : w2.cell? ⟨w.heap.size, 0, none⟩ = some (.int .i64 s) := hl2.cell (by simp); have b1 : w2.cell? ⟨w.heap.size, 1, none⟩ = some (.bool false) := hl2.cell (by simp))
    have hW2 := HW.out.keep hL2
    have hB2 : Save B w w2 := Save.of_later hL2
    go_end0
    exact ⟨rfl, (hB2.setCell _ _), (hW2.setL (l - 1))⟩
  · have HEF : Hid (failB s = false) := ef
    clear ef
    go_enter Try.func37, Try.ntmps37
    go_wp2_with (go_at_call 42; refine (failed_is s true ll false HEF.out _).mono ?_; rintro e w2 ⟨rfl, hl2⟩; have hL2 : Later w w2 := ((Later.refl w).alloc _).trans hl2; obtain ⟨_, _, _, _, _, a8, a9, a10, hz⟩ := HW.out.keep hL2; have b0 : w2.cell? ⟨w.heap.size, 0, none⟩ = some (.int .i64 s) := hl2.cell (by simp); have b1 : w2.cell? ⟨w.heap.size, 1, none⟩ = some (.bool true) := hl2.cell (by simp))
    have hW2 := HW.out.keep hL2
    have hB2 : Save B w w2 := Save.of_later hL2
    go_end0
    exact ⟨rfl, (hB2.setCell _ _), (hW2.setT (t - 1))⟩
  · have HEF : Hid (failB s = false) := ef
    clear ef
    go_enter Try.func37, Try.ntmps37
    go_wp2_with (go_at_call 42; refine (failed_is s true ll false HEF.out _).mono ?_; rintro e w2 ⟨rfl, hl2⟩; have hL2 : Later w w2 := ((Later.refl w).alloc _).trans hl2; obtain ⟨_, _, _, _, _, a8, a9, a10, hz⟩ := HW.out.keep hL2; have b0 : w2.cell? ⟨w.heap.size, 0, none⟩ = some (.int .i64 s) := hl2.cell (by simp); have b1 : w2.cell? ⟨w.heap.size, 1, none⟩ = some (.bool true) := hl2.cell (by simp))
    have hW2 := HW.out.keep hL2
    have hB2 : Save B w w2 := Save.of_later hL2
    go_end0
    exact ⟨rfl, ((hB2.setCell _ _).setCell _ _), ((hW2.setT (t - 1)).setL (l - 1))⟩
  · have HEF : Hid (failB s = true) := ef
    clear ef
    go_enter Try.func37, Try.ntmps37
    go_wp2_with (go_at_call 42; refine (failed_is s false ll true HEF.out _).mono ?_; rintro e w2 ⟨rfl, hl2⟩; have hL2 : Later w w2 := ((Later.refl w).alloc _).trans hl2; obtain ⟨_, _, _, _, _, a8, a9, a10, hz⟩ := HW.out.keep hL2; have b0 : w2.cell? ⟨w.heap.size, 0, none⟩ = some (.int .i64 s) := hl2.cell (by simp); have b1 : w2.cell? ⟨w.heap.size, 1, none⟩ = some (.bool false) := hl2.cell (by simp))
    have hW2 := HW.out.keep hL2
    have hB2 : Save B w w2 := Save.of_later hL2
    go_end0
    exact ⟨rfl, (hB2.setCell _ _), (hW2.setF (f - 1))⟩
  · have HEF : Hid (failB s = true) := ef
    clear ef
    go_enter Try.func37, Try.ntmps37
    go_wp2_with (go_at_call 42; refine (failed_is s false ll true HEF.out _).mono ?_; rintro e w2 ⟨rfl, hl2⟩; have hL2 : Later w w2 := ((Later.refl w).alloc _).trans hl2; obtain ⟨_, _, _, _, _, a8, a9, a10, hz⟩ := HW.out.keep hL2; have b0 : w2.cell? ⟨w.heap.size, 0, none⟩ = some (.int .i64 s) := hl2.cell (by simp); have b1 : w2.cell? ⟨w.heap.size, 1, none⟩ = some (.bool false) := hl2.cell (by simp))
    have hW2 := HW.out.keep hL2
    have hB2 : Save B w w2 := Save.of_later hL2
    go_end0
    exact ⟨rfl, ((hB2.setCell _ _).setCell _ _), ((hW2.setF (f - 1)).setL (l - 1))⟩
  · have HEF : Hid (failB s = true) := ef
    clear ef
    go_enter Try.func37, Try.ntmps37
    go_wp2_with (go_at_call 42; refine (failed_is s true ll true HEF.out _).mono ?_; rintro e w2 ⟨rfl, hl2⟩; have hL2 : Later w w2 := ((Later.refl w).alloc _).trans hl2; obtain ⟨_, _, _, _, _, a8, a9, a10, hz⟩ := HW.out.keep hL2; have b0 : w2.cell? ⟨w.heap.size, 0, none⟩ = some (.int .i64 s) := hl2.cell (by simp); have b1 : w2.cell? ⟨w.heap.size, 1, none⟩ = some (.bool true) := hl2.cell (by simp))
    have hW2 := HW.out.keep hL2
    have hB2 : Save B w w2 := Save.of_later hL2
    go_end0
    exact ⟨rfl, ((hB2.setCell _ _).setCell _ _), ((hW2.setF (f - 1)).setT (t - 1))⟩
  · have HEF : Hid (failB s = true) := ef
    clear ef
    go_enter Try.func37, Try.ntmps37
    go_wp2_with (go_at_call 42; refine (failed_is s true ll true HEF.out _).mono ?_; rintro e w2 ⟨rfl, hl2⟩; have hL2 : Later w w2 := ((Later.refl w).alloc _).trans hl2; obtain ⟨_, _, _, _, _, a8, a9, a10, hz⟩ := HW.out.keep hL2; have b0 : w2.cell? ⟨w.heap.size, 0, none⟩ = some (.int .i64 s) := hl2.cell (by simp); have b1 : w2.cell? ⟨w.heap.size, 1, none⟩ = some (.bool true) := hl2.cell (by simp))
    have hW2 := HW.out.keep hL2
    have hB2 : Save B w w2 := Save.of_later hL2
    go_end0
    exact ⟨rfl, (((hB2.setCell _ _).setCell _ _).setCell _ _), (((hW2.setF (f - 1)).setT (t - 1)).setL (l - 1))⟩
end Go.Proofs.Qxb6612353a
