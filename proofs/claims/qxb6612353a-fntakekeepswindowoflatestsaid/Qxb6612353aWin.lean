/-
  'ZZnewWindow', 'ZZanswered'.
-/
import Derived.Test.Qxb6612353aAdmit
namespace Go.Proofs.Qxb6612353a
open Go.RowKit
set_option linter.unusedVariables false

/-- one number more of a row that is filled from the left -/
theorem fill_step {wr : World} {B e n t : Nat} {ys xs : List Int} (hys : ys.length = n) (ht : t < n) (hf : ∀ j, j < t → ys.getD j 0 = xs.getD j 0)
    (hown : wr.ownsRow B e 1 (.slice (some ⟨B, 0, none⟩) n n) n (ys.map (Value.int .i64))) (v : Int) (hv : v = xs.getD t 0) :
    ∃ zs : List Int, zs.length = n ∧ (∀ j, j < t + 1 → zs.getD j 0 = xs.getD j 0) ∧ (wr.setCell ⟨B, t, none⟩ (.int .i64 v)).ownsRow B e 1 (.slice (some ⟨B, 0, none⟩) n n) n (zs.map (Value.int .i64)) := by
  refine ⟨ys.set t v, by simpa using hys, ?_, own_store hown t v⟩
  intro j hj
  by_cases e : j = t
  · subst e; simp [hys, ht, hv]
  · have := hf j (by omega)
    simpa [List.getD, List.getElem?_set, show ¬ t = j from fun h => e h.symm] using this
theorem fill_end {w : World} {B e n : Nat} {ys xs : List Int} (hys : ys.length = n) (hx : xs.length = n) (hf : ∀ j, j < n → ys.getD j 0 = xs.getD j 0) (hown : w.ownsRow B e 1 (.slice (some ⟨B, 0, none⟩) n n) n (ys.map (Value.int .i64))) : IntsAt w B 0 xs := by
  intro j hj
  rw [Nat.zero_add, own_cell hown j (by omega), hf j (by omega)]

theorem win_new {w : World} {cnt nxt sum f t l : Int} {rec ans : Value} :
    Win (w.alloc (.cells #[.pointer none, .int .i32 0, .int .u32 0, .int .i64 cnt, rec, .int .i64 nxt, ans, .int .i64 sum, .int .i64 f, .int .i64 t, .int .i64 l] 67)) w.heap.size cnt rec nxt ans sum f t l := by
  refine ⟨?_, ?_, ?_, ?_, ?_, ?_, ?_, ?_, fun j => ?_⟩ <;> simp [go_sem]

set_option maxHeartbeats 2000000 in
theorem newWindow_any (cnt : Int) (ra : Option Addr) (rn rc : Nat) (nxt : Int) (aa : Option Addr) (na ca : Nat) (xs : List Int) (sum f t l : Int) (w : World) (hle : na ≤ 1000) (h : SlI w aa na xs) (hca : aa = none → ca = 0) :
    Calls Try.prog 9 #[.int .i64 cnt, .slice ra rn rc, .int .i64 nxt, .slice aa na ca, .int .i64 sum, .int .i64 f, .int .i64 t, .int .i64 l] w fun e w' =>
      ∃ B a', e = .returned (.pointer (some ⟨B, 0, none⟩)) ∧ w.heap.size ≤ B ∧ Win w' B cnt (.slice ra rn rc) nxt (.slice a' na na) sum f t l ∧ SlB w' B a' na xs ∧ Later w w' := by
  obtain ⟨hl, ⟨rfl, rfl⟩ | ⟨b, off, rfl, hb, hc⟩⟩ := h
  · obtain rfl := hca rfl
    have HL : Hid (xs.length = 0) := hl
    clear hl hca
    have hne := fun wx => run_neq_slice_nil_any (P := Try.prog) wx 23 2 none 0 0 0 0 Try.underlying23
    go_enter Try.func9, Try.ntmps9
    go_wp2
    go_ret
    exact ⟨w.heap.size, none, rfl, Nat.le_refl _, win_new, ⟨⟨HL.out, .inl ⟨rfl, rfl⟩⟩, fun x hx => by cases hx⟩, (Later.refl w).alloc _⟩
  · have hne := fun wx => run_neq_slice_nil_any (P := Try.prog) wx 23 2 (some ⟨b, off, none⟩) na ca 0 0 Try.underlying23
    obtain ⟨i0, hi, hz0, hz1, hz2⟩ := info_parts Try.info34
    have HC : Hid (IntsAt w b off xs) := hc
    have HL : Hid (xs.length = na) := hl
    clear hl hca hc
    go_enter Try.func9, Try.ntmps9
    go_wp2_with (at_make; refine wpList_make_full _ rfl _ _ 52 rfl w.heap.size 34 i0 _ 1 Try.underlying52 hi hz0 hz1 _ _ _ _ na rfl rfl rfl rfl ?b2 ?b3 (Nat.le_refl _) ?_)
    case b2 => rw [hz2]; omega
    case b3 => unfold maxLen; omega
    intro w0 hown0 hgrow0
    have O0 : Hid (w0.ownsRow w.heap.size 34 1 (.slice (some ⟨w.heap.size, 0, none⟩) na na) na ((List.replicate na (0 : Int)).map (Value.int .i64))) := by
      show w0.ownsRow _ _ _ _ _ _
      rw [toList_madeCells_one] at hown0
      simpa using hown0
    have B0 : Hid (Below w.heap.size w w0) := (Below.refl _ _).grown hgrow0 (Nat.le_refl _) (fun k h => by cases h)
    clear hown0 hgrow0 hne
    go_wp2
    go_loopw [26] (fun i wr => ∃ (k : Nat) (ys : List Int), k ≤ na ∧ i = .int .i64 k ∧ ys.length = na ∧ (∀ j, j < k → ys.getD j 0 = xs.getD j 0) ∧ wr.ownsRow w.heap.size 34 1 (.slice (some ⟨w.heap.size, 0, none⟩) na na) na (ys.map (Value.int .i64)) ∧ Below w.heap.size w wr) (fun i _ => na - (intOf i).toNat)
    case atStart => exact ⟨0, List.replicate na 0, Nat.zero_le _, rfl, by simp, fun j hj => absurd hj (Nat.not_lt_zero _), O0.out, B0.out⟩
    case round =>
      clear O0 B0
      obtain ⟨k, ys, hk, rfl, hys, hf, hown, hB⟩ := hrel
      by_cases hlt : k < na
      · have c1 := (hB.cell (by exact hb)).trans (HC.out k (by rw [HL.out]; exact hlt))
        have c2 := own_cell hown k hlt
        have f2 := hown.frozenAt k
        have HST := fill_step hys hlt hf hown (xs.getD k 0) rfl
        have HB : Hid (Below w.heap.size w wr) := hB
        have HS : Hid (∃ zs : List Int, zs.length = na ∧ (∀ j, j < k + 1 → zs.getD j 0 = xs.getD j 0) ∧ (wr.setCell ⟨w.heap.size, k, none⟩ (.int .i64 (xs.getD k 0))).ownsRow w.heap.size 34 1 (.slice (some ⟨w.heap.size, 0, none⟩) na na) na (zs.map (Value.int .i64))) := HST
        clear HST hf hown hB hys
        generalize xs.getD k 0 = x at c1 HS
        generalize ys.getD k 0 = y at c2
        go_wp2
        go_roundw
        case rel =>
          obtain ⟨zs, z1, z2, z3⟩ := HS.out
          exact ⟨k + 1, zs, by omega, by go_num, z1, z2, z3, HB.out.setCell (Nat.le_refl _) _⟩
        case measure => simp [intOf]; omega
      · obtain rfl : k = na := by omega
        have HI : Hid (IntsAt wr w.heap.size 0 xs) := fill_end hys HL.out hf hown
        have HZ : Hid (w.heap.size < wr.heap.size) := (hown.lt _ rfl).2
        have HB : Hid (Below w.heap.size w wr) := hB
        have HLL : Hid (xs.length = k) := HL.out
        clear hf hown hB hys
        go_wp2
        go_ret
        have hl2 : Later wr (wr.alloc (.cells #[.pointer none, .int .i32 0, .int .u32 0, .int .i64 cnt, .slice ra rn rc, .int .i64 nxt, .slice (some ⟨w.heap.size, 0, none⟩) k k, .int .i64 sum, .int .i64 f, .int .i64 t, .int .i64 l] 67)) := (Later.refl wr).alloc _
        refine ⟨wr.heap.size, some ⟨w.heap.size, 0, none⟩, rfl, HB.out.size, win_new, ⟨⟨HLL.out, .inr ⟨w.heap.size, 0, rfl, Nat.lt_of_lt_of_le HZ.out hl2.size, HI.out.keep hl2⟩⟩, fun x hx => ?_⟩, HB.out.alloc HB.out.size _⟩
        cases hx
        have := HZ.out
        simp
        omega

set_option maxHeartbeats 2000000 in
theorem zzanswered_any (B : Nat) (cnt : Int) (rec : Value) (nxt : Int) (a : Option Addr) (n c : Nat) (xs : List Int) (sum f t l : Int) (w : World) (hle : n ≤ 1001) (hW : Win w B cnt rec nxt (.slice a n c) sum f t l) (h : SlI w a n xs) :
    Calls Try.prog 18 #[.pointer (some ⟨B, 0, none⟩)] w fun e w' => ∃ a' c', e = .returned (.slice a' n c') ∧ SlI w' a' n xs ∧ Later w w' := by
  obtain ⟨_, _, _, a6, _⟩ := hW
  have hBw : B < w.heap.size := World.block_lt_of_cell? w _ a6
  obtain ⟨hl, ⟨rfl, rfl⟩ | ⟨b, off, rfl, hb, hc⟩⟩ := h
  · have HL : Hid (xs.length = 0) := hl
    have hne := fun wx => Lib.run_eql_slice_nil (P := Try.prog) wx 52 34 none 0 c 0 0 Try.underlying52
    clear hl
    go_enter Try.func18, Try.ntmps18
    go_wp2
    go_ret
    exact ⟨none, _, rfl, ⟨HL.out, .inl ⟨rfl, rfl⟩⟩, Later.refl w⟩
  · have hne := fun wx => Lib.run_eql_slice_nil (P := Try.prog) wx 52 34 (some ⟨b, off, none⟩) n c 0 0 Try.underlying52
    obtain ⟨i0, hi, hz0, hz1, hz2⟩ := info_parts Try.info2
    have HC : Hid (IntsAt w b off xs) := hc
    have HL : Hid (xs.length = n) := hl
    clear hl hc
    go_enter Try.func18, Try.ntmps18
    go_wp2_with (at_make; refine wpList_make_full _ rfl _ _ 23 rfl w.heap.size 2 i0 _ 1 Try.underlying23 hi hz0 hz1 _ _ _ _ n rfl rfl rfl rfl ?b2 ?b3 (Nat.le_refl _) ?_)
    case b2 => rw [hz2]; omega
    case b3 => unfold maxLen; omega
    intro w0 hown0 hgrow0
    have O0 : Hid (w0.ownsRow w.heap.size 2 1 (.slice (some ⟨w.heap.size, 0, none⟩) n n) n ((List.replicate n (0 : Int)).map (Value.int .i64))) := by
      show w0.ownsRow _ _ _ _ _ _
      rw [toList_madeCells_one] at hown0
      simpa using hown0
    have B0 : Hid (Below w.heap.size w w0) := (Below.refl _ _).grown hgrow0 (Nat.le_refl _) (fun k h => by cases h)
    have a6' : w0.cell? ⟨B, 6, none⟩ = some (.slice (some ⟨b, off, none⟩) n c) := (B0.out.cell (by exact hBw)).trans a6
    clear hown0 hgrow0 hne
    go_wp2
    clear a6'
    go_loopw [21] (fun i wr => ∃ (k : Nat) (ys : List Int), k ≤ n ∧ i = .int .i64 k ∧ ys.length = n ∧ (∀ j, j < k → ys.getD j 0 = xs.getD j 0) ∧ wr.ownsRow w.heap.size 2 1 (.slice (some ⟨w.heap.size, 0, none⟩) n n) n (ys.map (Value.int .i64)) ∧ Below w.heap.size w wr) (fun i _ => n - (intOf i).toNat)
    case atStart => exact ⟨0, List.replicate n 0, Nat.zero_le _, rfl, by simp, fun j hj => absurd hj (Nat.not_lt_zero _), O0.out, B0.out⟩
    case round =>
      clear O0 B0
      obtain ⟨k, ys, hk, rfl, hys, hf, hown, hB⟩ := hrel
      by_cases hlt : k < n
      · have c0 := (hB.cell (by exact hBw)).trans a6
        have c1 := (hB.cell (by exact hb)).trans (HC.out k (by rw [HL.out]; exact hlt))
        have c2 := own_cell hown k hlt
        have f2 := hown.frozenAt k
        have HST := fill_step hys hlt hf hown (xs.getD k 0) rfl
        have HB : Hid (Below w.heap.size w wr) := hB
        have HS : Hid (∃ zs : List Int, zs.length = n ∧ (∀ j, j < k + 1 → zs.getD j 0 = xs.getD j 0) ∧ (wr.setCell ⟨w.heap.size, k, none⟩ (.int .i64 (xs.getD k 0))).ownsRow w.heap.size 2 1 (.slice (some ⟨w.heap.size, 0, none⟩) n n) n (zs.map (Value.int .i64))) := HST
        clear HST hf hown hB hys
        generalize xs.getD k 0 = x at c1 HS
        generalize ys.getD k 0 = y at c2
        go_wp2
        go_roundw
        case rel =>
          obtain ⟨zs, z1, z2, z3⟩ := HS.out
          exact ⟨k + 1, zs, by omega, by go_num, z1, z2, z3, HB.out.setCell (Nat.le_refl _) _⟩
        case measure => simp [intOf]; omega
      · obtain rfl : k = n := by omega
        go_wp2
        go_ret
        exact ⟨_, _, rfl, ⟨HL.out, .inr ⟨w.heap.size, 0, rfl, (hown.lt _ rfl).2, fill_end hys HL.out hf hown⟩⟩, hB⟩
end Go.Proofs.Qxb6612353a
