/-
  'without', 'sumOf', 'answeredLatencies'.
-/
import Derived.Test.Qxb6612353aRowsP
namespace Go.Proofs.Qxb6612353a
open Go.RowKit
set_option linter.unusedVariables false

theorem Try.info2 : (Try.prog.info? 2).map (fun i => (i.zero, i.size, i.bytes)) = some (some (.int .i64 0), 1, 8) := by kernel_rfl

theorem cells3 {w : World} {s l : Int} {t : Bool} : ∀ (j : Nat) (u : Value), ([.int .i64 s, .bool t, .int .i64 l] : List Value)[j]? = some u → (w.alloc (.cells #[.int .i64 s, .bool t, .int .i64 l] 25)).cell? ((⟨w.heap.size, 0, none⟩ : Addr).add j) = some u := by
  intro j u hj
  match j, hj with
  | 0, hj => simp at hj; subst hj; simp [Addr.add]
  | 1, hj => simp at hj; subst hj; simp [Addr.add]
  | 2, hj => simp at hj; subst hj; simp [Addr.add]

set_option maxHeartbeats 1000000 in
theorem without_any (b off n cap p : Nat) (rs : List O) (w : World) (hn : rs.length = n) (hle : n ≤ 1000) (hp : p < n) (hb : b < w.heap.size) (h1 : OutsUp w b off rs n) :
    Calls Try.prog 27 #[.slice (some ⟨b, off, none⟩) n cap, .int .i64 p] w fun e w' => e = .returned (.slice (some ⟨w.heap.size, 0, none⟩) (wo rs p n).length n) ∧ OutsUp w' w.heap.size 0 (wo rs p n) (wo rs p n).length ∧ Later w w' ∧ w.heap.size < w'.heap.size := by
  obtain ⟨i0, hi, hz0, hz1, hz2⟩ := info_parts Try.info25
  have H1 : Hid (OutsUp w b off rs n) := h1
  have HN : Hid (rs.length = n) := hn
  clear h1 hn
  go_enter Try.func27, Try.ntmps27
  go_wp2_with (at_make; refine wpList_make_own _ rfl _ _ 22 rfl w.heap.size 25 i0 _ 3 Try.underlying22 hi hz0 hz1 _ _ _ n rfl rfl rfl ?b2 ?b3 (Nat.le_refl _) ?_)
  case b2 => rw [hz2]; omega
  case b3 => unfold maxLen; omega
  intro w0 hown0 hgrow0
  have B0 : Hid (Below w.heap.size w w0) := (Below.refl _ _).grown hgrow0 (Nat.le_refl _) (fun k h => by cases h)
  have O0 : Hid (w0.ownsRow w.heap.size 25 3 (.slice (some ⟨w.heap.size, 0, none⟩) 0 n) 0 []) := hown0
  clear hown0 hgrow0
  go_wp2
  go_loopw [5, 6] (fun v i wr => ∃ (k m : Nat) (ys : List O), k ≤ n ∧ i = .int .i64 k ∧ ys = wo rs p k ∧ ys.length = m ∧ m ≤ k ∧ v = .slice (some ⟨w.heap.size, 0, none⟩) m n ∧ wr.ownsRow w.heap.size 25 3 (.slice (some ⟨w.heap.size, 0, none⟩) m n) m (outCells ys) ∧ Below w.heap.size w wr) (fun _ i _ => n - (intOf i).toNat)
  case atStart => exact ⟨0, 0, [], Nat.zero_le _, rfl, by simp [wo], rfl, Nat.le_refl _, rfl, O0.out, B0.out⟩
  case round =>
    clear O0 B0
    obtain ⟨k, m, ys, hk, rfl, hys, hm, hmk, rfl, hown, hB⟩ := hrel
    by_cases hlt : k < n
    · obtain ⟨c0, c1, c2⟩ := H1.out k hlt
      replace c0 := (hB.cell (by exact hb)).trans c0
      replace c1 := (hB.cell (by exact hb)).trans c1
      replace c2 := (hB.cell (by exact hb)).trans c2
      have hki : (k : Int) < (n : Int) := by omega
      by_cases hkp : k = p
      · have HY : Hid (ys = wo rs p (k + 1)) := by show _ = _; rw [hys, hkp]; exact (wo_skip rs p (by rw [HN.out]; exact hp)).symm
        have hkq : (k : Int) = (p : Int) := by omega
        have hd : ((k : Int) != (p : Int)) = false := by simp [hkp]
        have HO : Hid (wr.ownsRow w.heap.size 25 3 (.slice (some ⟨w.heap.size, 0, none⟩) m n) m (outCells ys)) := hown
        have HB : Hid (Below w.heap.size w wr) := hB
        have HM : Hid (ys.length = m) := hm
        clear hys hkp c0 c1 c2 hown hB hm hkq
        go_wp2
        go_roundw
        case rel => exact ⟨k + 1, m, ys, by omega, by go_num, HY.out, HM.out, by omega, rfl, HO.out, HB.out⟩
        case measure => simp [intOf]; omega
      · have HY : Hid (ys ++ [rs.getD k o0] = wo rs p (k + 1)) := by show _ = _; rw [hys]; exact (wo_keep rs p k (by rw [HN.out]; exact hlt) hkp).symm
        have hd : ((k : Int) != (p : Int)) = true := by simp; omega
        have HM : Hid (ys.length = m) := hm
        have HB : Hid (Below w.heap.size w wr) := hB
        have HZ : Hid (w.heap.size ≤ wr.heap.size) := hB.size
        clear hys hkp hB hm
        generalize rs.getD k o0 = o at c0 c1 c2 HY
        obtain ⟨s, t, l⟩ := o
        go_wp2_with (at_builtin; refine wpList_append_fits _ rfl (.tmp 19) (.tmp 24) 22 rfl w.heap.size 25 i0 3 Try.underlying22 hi hz1 w.heap.size m n _ rfl (hown.alloc _) ⟨wr.heap.size, 0, none⟩ 1 1 [.int .i64 s, .bool t, .int .i64 l] rfl rfl cells3 (by intro u hu; simp at hu; rcases hu with rfl | rfl | rfl <;> rfl) (by omega) ?_; intro w1 hown1 hgrow1)
        have HO1 : Hid (w1.ownsRow w.heap.size 25 3 (.slice (some ⟨w.heap.size, 0, none⟩) (m + 1) n) (m + 1) (outCells (ys ++ [(s, t, l)]))) := by
          rw [outCells_app]; exact hown1
        have HB1 : Hid (Below w.heap.size w w1) := (HB.out.alloc HZ.out _).grown hgrow1 (by have := HZ.out; simp; omega) (fun k hk => by cases hk; exact Nat.le_refl _)
        go_roundw
        case rel => exact ⟨k + 1, m + 1, ys ++ [(s, t, l)], by omega, by go_num, HY.out, by simp [HM.out], by omega, rfl, HO1.out, HB1.out⟩
        case measure => simp [intOf]; omega
    · obtain rfl : k = n := by omega
      go_wp2
      go_ret
      subst hys
      subst hm
      exact ⟨rfl, outs_of_own rfl hown, hB, (hown.lt _ rfl).2⟩

/-- from this place on lie the numbers xs -/
def IntsAt (w : World) (b off : Nat) (xs : List Int) : Prop := ∀ j, j < xs.length → w.cell? ⟨b, off + j, none⟩ = some (.int .i64 (xs.getD j 0))
theorem IntsAt.keep {w w' : World} {b off : Nat} {xs : List Int} (h : IntsAt w b off xs) (hl : Later w w') : IntsAt w' b off xs := fun j hj => hl.cell (h j hj)

/-- A slice of int64 of the call's own: nil, or it leads to xs. -/
def SlI (w : World) (a : Option Addr) (n : Nat) (xs : List Int) : Prop := xs.length = n ∧ ((a = none ∧ n = 0) ∨ ∃ b off, a = some ⟨b, off, none⟩ ∧ b < w.heap.size ∧ IntsAt w b off xs)
theorem SlI.keep {w w' : World} {a : Option Addr} {n : Nat} {xs : List Int} (h : SlI w a n xs) (hl : Later w w') : SlI w' a n xs := by
  obtain ⟨h0, h | ⟨b, off, rfl, hb, hc⟩⟩ := h
  · exact ⟨h0, .inl h⟩
  · exact ⟨h0, .inr ⟨b, off, rfl, Nat.lt_of_lt_of_le hb hl.size, hc.keep hl⟩⟩

theorem take_int (xs : List Int) (k : Nat) (h : k < xs.length) : xs.take (k + 1) = xs.take k ++ [xs.getD k 0] := by
  rw [List.take_succ_eq_append_getElem h]
  simp [List.getD, h]

set_option maxHeartbeats 400000 in
theorem sumOf_any (b off n cap : Nat) (xs : List Int) (w : World) (hn : xs.length = n) (hle : n ≤ 1001) (h : IntsAt w b off xs) :
    Calls Try.prog 31 #[.slice (some ⟨b, off, none⟩) n cap] w fun e w' => e = .returned (.int .i64 (wsum xs)) ∧ w' = w := by
  have H : Hid (IntsAt w b off xs) := h
  have HN : Hid (xs.length = n) := hn
  clear h hn
  go_enter Try.func31, Try.ntmps31
  go_wp2
  go_loop [3, 4] (fun s i => ∃ k : Nat, k ≤ n ∧ i = .int .i64 k ∧ s = .int .i64 (wsum (xs.take k))) (fun _ i => n - (intOf i).toNat)
  case atStart => exact ⟨0, Nat.zero_le _, rfl, rfl⟩
  case round =>
    obtain ⟨k, hk, rfl, rfl⟩ := hrel
    by_cases hlt : k < n
    · have hc := H.out k (by rw [HN.out]; exact hlt)
      have HS : Hid (wsum (xs.take (k + 1)) = wrap64 (wsum (xs.take k) + xs.getD k 0)) := by
        show _ = _
        rw [take_int xs k (by rw [HN.out]; exact hlt), wsum_snoc]
      generalize xs.getD k 0 = v at hc HS
      generalize wsum (xs.take k) = a at HS
      have hki : (k : Int) < (n : Int) := by omega
      go_wp2
      go_round
      case rel => exact ⟨k + 1, by omega, by go_num, by rw [HS.out]⟩
      case measure => simp [intOf]; omega
    · obtain rfl : k = n := by omega
      go_wp2
      go_ret
      exact ⟨ret_int (by rw [List.take_of_length_le (by rw [HN.out]; exact Nat.le_refl _)]), rfl⟩
end Go.Proofs.Qxb6612353a
