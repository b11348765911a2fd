/-
  'slices.Insert' of one element into a []time.Duration without room.
-/
import Derived.Test.Qxb6612353aSearch
import Derived.Lib.AppendZerosOnto
import Derived.Laws.CopyOwn
import Derived.ArgAppend
namespace Go.Proofs.Qxb6612353a
open Go.RowKit
set_option linter.unusedVariables false

theorem Try.info34 : (Try.prog.info? 34).map (fun i => (i.zero, i.size, i.bytes)) = some (some (.int .i64 0), 1, 8) := by kernel_rfl

/-- the row that the two copies leave -/
theorem splice_two (xs : List Int) (i n : Nat) (v : Int) (ROW : List Value) (T : List Value) (hn : xs.length = n) (hi : i < n) (hR : ROW = (xs.take i).map (Value.int .i64) ++ T) (hT : n + 1 - i ≤ T.length) :
    ∃ Z, splice (splice ROW i [.int .i64 v]) (i + 1) ((xs.drop i).map (Value.int .i64)) = (insAt xs i v).map (Value.int .i64) ++ Z := by
  subst hR
  have hl : ((xs.take i).map (Value.int .i64)).length = i := by simp; omega
  have h1 : splice ((xs.take i).map (Value.int .i64) ++ T) i [.int .i64 v] = (xs.take i).map (Value.int .i64) ++ (.int .i64 v :: T.drop 1) := by
    unfold splice
    rw [List.take_append_of_le_length (by omega), List.take_of_length_le (by omega)]
    congr 1
    rw [List.length_singleton, List.drop_append, List.drop_of_length_le (by rw [hl]; omega), hl, show i + 1 - i = 1 by omega]
    rfl
  refine ⟨T.drop (1 + (n - i)), ?_⟩
  rw [h1]
  unfold splice insAt
  have h2 : ((xs.take i).map (Value.int .i64) ++ (.int .i64 v :: T.drop 1)).take (i + 1) = (xs.take i).map (Value.int .i64) ++ [.int .i64 v] := by
    rw [List.take_append, List.take_of_length_le (by omega), hl, show i + 1 - i = 1 by omega]
    simp
  have h3 : ((xs.take i).map (Value.int .i64) ++ (.int .i64 v :: T.drop 1)).drop (i + 1 + ((xs.drop i).map (Value.int .i64)).length) = T.drop (1 + (n - i)) := by
    have hd : ((xs.drop i).map (Value.int .i64)).length = n - i := by simp [hn]
    rw [hd, List.drop_append, List.drop_of_length_le (by rw [hl]; omega), hl, show i + 1 + (n - i) - i = (n - i) + 1 by omega, List.drop_succ_cons, List.drop_drop]
    rfl
  rw [h2, h3]
  simp

theorem ints_of_row {w : World} {g e : Nat} {xs : List Int} {Z : List Value} (h : w.heap[g]? = some (.cells ((xs.map (Value.int .i64)) ++ Z).toArray e (0, 0))) : IntsAt w g 0 xs := by
  intro j hj
  rw [Nat.zero_add, cell_of_row w g j _ e (0, 0) h, List.getElem?_toArray, List.getElem?_append_left (by simpa using hj)]
  simp [List.getD, hj]

/-- what a row that was appended to is -/
theorem own_result {w w' : World} {e n : Nat} {v' : Value} {xs : List Int} (h : w'.ownsRow w.heap.size e 1 v' (n + 1) (xs.map (Value.int .i64))) : ∃ g cap', v' = .slice (some ⟨g, 0, none⟩) (n + 1) cap' ∧ w.heap.size ≤ g ∧ g < w'.heap.size ∧ IntsAt w' g 0 xs := by
  rcases h.2 with ⟨_, h0⟩ | ⟨g, cap', cur, rfl, hg, hh, _⟩
  · omega
  · refine ⟨g, cap', rfl, hg, (Array.getElem?_eq_some_iff.1 hh).1, fun j hj => ?_⟩
    rw [Nat.zero_add]
    exact own_cell h j (by have := h.1; simp at this; omega)

set_option maxHeartbeats 1000000 in
theorem insert_nil (vb : Nat) (v : Int) (w : World) (hv : w.cell? ⟨vb, 0, none⟩ = some (.int .i64 v)) :
    Calls Try.prog 40 #[.slice none 0 0, .int .i64 0, .slice (some ⟨vb, 0, none⟩) 1 1] w fun e w' => ∃ g cap', e = .returned (.slice (some ⟨g, 0, none⟩) 1 cap') ∧ w.heap.size ≤ g ∧ g < w'.heap.size ∧ IntsAt w' g 0 [v] ∧ Later w w' := by
  obtain ⟨i0, hi, hz0, hz1, hz2⟩ := info_parts Try.info34
  go_enter Try.func40, Try.ntmps40
  go_wp2_with (at_builtin; refine wpList_append_grows _ rfl (.tmp 23) (.tmp 24) 52 rfl 34 i0 _ 1 8 Try.underlying52 hi hz0 hz1 hz2 rfl (by decide) none 0 0 [] rfl (fun _ => ⟨rfl, rfl⟩) rfl (fun b hb => by cases hb) ⟨vb, 0, none⟩ 1 1 [.int .i64 v] rfl rfl (by intro j u hj; match j, hj with | 0, hj => simp at hj; subst hj; exact hv) (by intro u hu; simp at hu; subst hu; rfl) (by omega) (by unfold maxLen; omega) (by omega) ?_; intro v' w1 hown hgrow)
  go_ret
  obtain ⟨g, cap', rfl, h1, h2, h3⟩ := own_result (xs := [v]) hown
  exact ⟨g, cap', rfl, h1, h2, h3, (Below.refl _ _).grown hgrow (Nat.le_refl _) (fun k h => by cases h)⟩

set_option maxHeartbeats 1000000 in
theorem insert_end (b off n vb : Nat) (xs : List Int) (v : Int) (w : World) (hn : xs.length = n) (hle : n ≤ 1001) (hx : IntsAt w b off xs) (hv : w.cell? ⟨vb, 0, none⟩ = some (.int .i64 v)) :
    Calls Try.prog 40 #[.slice (some ⟨b, off, none⟩) n n, .int .i64 n, .slice (some ⟨vb, 0, none⟩) 1 1] w fun e w' => ∃ g cap', e = .returned (.slice (some ⟨g, 0, none⟩) (n + 1) cap') ∧ w.heap.size ≤ g ∧ g < w'.heap.size ∧ IntsAt w' g 0 (xs ++ [v]) ∧ Later w w' := by
  obtain ⟨i0, hi, hz0, hz1, hz2⟩ := info_parts Try.info34
  have HX : Hid (∀ bb, (some ⟨b, off, none⟩ : Option Addr) = some bb → ∀ j u, (xs.map (Value.int .i64))[j]? = some u → w.cell? (bb.add j) = some u) := by
    intro bb hb j u hj
    cases hb
    have hj2 : j < xs.length := by have := (List.getElem?_eq_some_iff.1 hj).1; simpa using this
    have := hx j hj2
    simp [hj2] at hj
    rw [Addr.add_lit, this]
    simp [List.getD, hj2, hj]
  have HL : Hid ((xs.map (Value.int .i64)).length = n * 1) := by show _ = _; simp [hn]
  have HV : Hid (∀ j u, ([.int .i64 v] : List Value)[j]? = some u → w.cell? ((⟨vb, 0, none⟩ : Addr).add j) = some u) := by
    intro j u hj
    match j, hj with
    | 0, hj => simp at hj; subst hj; exact hv
  clear hx hn hv
  go_enter Try.func40, Try.ntmps40
  go_wp2_with (at_builtin; refine wpList_append_grows _ rfl (.tmp 23) (.tmp 24) 52 rfl 34 i0 _ 1 8 Try.underlying52 hi hz0 hz1 hz2 rfl (by decide) (some ⟨b, off, none⟩) n n (xs.map (Value.int .i64)) rfl (fun hb => by cases hb) HL.out HX.out ⟨vb, 0, none⟩ 1 1 [.int .i64 v] rfl rfl HV.out (by intro u hu; simp at hu; subst hu; rfl) (by omega) (by unfold maxLen; omega) (by omega) ?_; intro v' w1 hown hgrow)
  go_ret
  obtain ⟨g, cap', rfl, h1, h2, h3⟩ := own_result (xs := xs ++ [v]) (by rw [List.map_append]; exact hown)
  exact ⟨g, cap', rfl, h1, h2, h3, (Below.refl _ _).grown hgrow (Nat.le_refl _) (fun k h => by cases h)⟩
end Go.Proofs.Qxb6612353a
