/-
  THE WALK OF 'FnGapsShiftMovesOnlyFirstGap'.
-/
import Derived.Test.Qxb6609219aParts
import Derived.Deep.QuietTactic
import Derived.BigQuiet
namespace Go.Proofs.Qxb6609219a
open Go.RowKit
set_option linter.unusedVariables false

set_option maxHeartbeats 800000 in
set_option maxRecDepth 1000000 in
theorem walkB (a0 : Option Addr) (len0 cap0 : Nat) (z0 : List Int) (c : Int) (w : World) (w0 : RowAt .u64 w a0 len0 cap0 z0) :
    Calls Try.prog 4 #[.slice a0 len0 cap0, .int .u64 c] w fun e w' => e = .returned (.bool true) ∧ Below w.heap.size w w' := by
  obtain ⟨i0, hi, hz0, hz1, hz2⟩ := info_parts Try.info25
  rcases w0 with ⟨rfl, rfl, rfl, rfl⟩ | ⟨x, rfl, hlc, hcm, hzl, hc, hw⟩
  · have hne := fun wx => run_neq_slice_nil_any (P := Try.prog) wx 22 25 none 0 0 0 0 Try.underlying22
    go_enter Try.func4, Try.ntmps4
    go_wp2_with (first | (at_make; refine wpList_make_full _ rfl _ _ 22 rfl w.heap.size 25 i0 (.int .u64 0) 1 Try.underlying22 hi hz0 hz1 _ _ _ _ 0 rfl rfl rfl rfl ?b2 ?b3 (Nat.le_refl _) ?_) | go_in)
    case b2 => rw [hz2]; omega
    case b3 => unfold maxLen; omega
    intro w1 hown1 hgrow1
    have hb1 : Below w.heap.size w w1 := (Below.refl _ _).grown hgrow1 (Nat.le_refl _) (fun k h => by cases h)
    have HR : Hid (RowIn w1 (some ⟨w.heap.size, 0, none⟩) 0 0 []) := row_of_made0 hown1
    clear hown1 hgrow1
    go_wp2
    refine wp_loop_rounds 1 ?_
    rw [rounds_succ]
    go_wp2_with (first | (go_at_call 8; refine (gaps_any none 0 0 [] _ ⟨rfl, .inl ⟨rfl, rfl, rfl⟩⟩ (by omega)).mono ?_; rintro e w2 ⟨rfl, _, hb2, _⟩) | (go_at_call 8; refine (gaps_any _ 0 0 [] _ (HR.out.keep hb2) (by omega)).mono ?_; rintro e w3 ⟨rfl, _, hb3, _⟩))
    refine wp_loop_rounds 1 ?_
    rw [rounds_succ]
    go_wp2
    go_ret
    exact ⟨rfl, (hb1.trans (hb2.mono hb1.size)).trans (hb3.mono (Nat.le_trans hb1.size hb2.size))⟩
  · unfold maxLen at hcm
    have hne := fun wx => run_neq_slice_nil_any (P := Try.prog) wx 22 25 (some x) len0 cap0 0 0 Try.underlying22
    by_cases hbig : 1048576 < len0
    · go_enter Try.func4, Try.ntmps4
      go_wp2
      go_ret
      exact ⟨rfl, Below.refl _ _⟩
    · by_cases hmid : 131072 < len0
      · go_enter Try.func4, Try.ntmps4
        go_wp2
        go_ret
        exact ⟨rfl, Below.refl _ _⟩
      · have hlen : (z0.take len0).length = len0 := by simp; omega
        have hlz : len0 ≤ z0.length := by omega
        have HW : Hid (∀ m ∈ z0, (Lit.int .u64 m).wf = true) := hw
        go_enter Try.func4, Try.ntmps4
        go_wp2_with (first | (at_make; refine wpList_make_full _ rfl _ _ 22 rfl w.heap.size 25 i0 (.int .u64 0) 1 Try.underlying22 hi hz0 hz1 _ _ _ _ len0 rfl rfl rfl rfl ?b2 ?b3 (Nat.le_refl _) ?_) | go_in)
        case b2 => rw [hz2]; omega
        case b3 => unfold maxLen; omega
        intro w1 hown1 hgrow1
        obtain ⟨cur, hcs, hcur⟩ := made_row hown1
        have hsrc := src_cells hlz hc hgrow1
        have hb1 : Below w.heap.size w w1 := (Below.refl _ _).grown hgrow1 (Nat.le_refl _) (fun k h => by cases h)
        obtain ⟨xs, hxs⟩ : ∃ xs, xs = z0.take len0 := ⟨_, rfl⟩
        obtain ⟨CS, hCS⟩ : ∃ CS, CS = (z0.take len0).map (Value.int .u64) := ⟨_, rfl⟩
        have HCS : Hid (CS = (z0.take len0).map (Value.int .u64)) := hCS
        rw [← hCS] at hsrc
        have hCl : CS.length = len0 := by rw [hCS]; simp; omega
        have hC1 : ∀ v ∈ CS, v.oneCell' = true := by rw [hCS]; exact ints_oneCell _ _
        have HSRC : Hid (∀ j v, CS[j]? = some v → w1.cell? (x.add j) = some v) := hsrc
        have HC : Hid (w1.heap[w.heap.size]? = some (.cells cur.toList.toArray 25 (0, 0))) := hcur
        have HCl : Hid (CS.length = len0) := hCl
        clear hsrc hcur hCS hCl hc hw hown1 hgrow1
        go_wp2_with (refine wpList_copy_splice rfl (.tmp 23) (.tmp 24) 22 22 rfl 25 Try.underlying22 (by kernel_rfl) _ _ _ _ _ _ rfl rfl w.heap.size 0 cur.toList 25 HC.out CS (by rw [HCl.out]; simp) (fun _ => ⟨rfl, x, rfl, HSRC.out⟩) (by rw [HCl.out]; simp; omega) hC1 w.heap.size w hb1 (Nat.le_refl _) ?_)
        intro w2 H2 hb2
        have HR : Hid (RowIn w2 (some ⟨w.heap.size, 0, none⟩) len0 len0 (z0.take len0)) := row_of_copy hcs hlz (by have := H2.out; rwa [HCS.out] at this)
        clear H2 HC HSRC hb1 hC1
        go_wp2_with (at_make; refine wpList_make_full _ rfl _ _ 22 rfl w2.heap.size 25 i0 (.int .u64 0) 1 Try.underlying22 hi hz0 hz1 _ _ _ _ len0 rfl rfl rfl rfl ?d2 ?d3 (Nat.le_refl _) ?_)
        case d2 => rw [hz2]; omega
        case d3 => unfold maxLen; omega
        intro w3 hown3 hgrow3
        go_wp2
        go_loopw [7] (fun i wr => ∃ (k : Nat) (ys : List Int), k ≤ len0 ∧ i = .int .i64 k ∧ ys.length = len0 ∧ (∀ j, j < k → ys.getD j 0 = IntKind.u64.wrap ((z0.take len0).getD j 0 + c)) ∧
            wr.ownsRow w2.heap.size 25 1 (.slice (some ⟨w2.heap.size, 0, none⟩) len0 len0) len0 (ys.map (Value.int .u64)) ∧ Below w2.heap.size w2 wr)
          (fun i _ => len0 - (intOf i).toNat)
        case atStart =>
          refine ⟨0, List.replicate len0 0, Nat.zero_le _, rfl, by simp, fun j hj => absurd hj (Nat.not_lt_zero _), ?_, (Below.refl _ _).grown hgrow3 (Nat.le_refl _) (fun k h => by cases h)⟩
          rw [toList_madeCells_one] at hown3
          simpa using hown3
        case round =>
          clear hown3 hgrow3
          obtain ⟨k, ys, hk, rfl, hys, hf, hown, hbel⟩ := hrel
          by_cases hlt : k < len0
          · have hcx : wr.cell? ⟨w.heap.size, k, none⟩ = some (.int .u64 ((z0.take len0).getD k 0)) := (HR.out.keep hbel).cells k hlt
            have hco : wr.cell? ⟨w2.heap.size, k, none⟩ = some (.int .u64 (ys.getD k 0)) := by
              rw [hown.cellAt k (by omega)]; simp [List.getD, hys, hlt]
            have hfo := hown.frozenAt k
            obtain ⟨v, hv⟩ : ∃ v, v = (z0.take len0).getD k 0 := ⟨_, rfl⟩
            rw [← hv] at hcx
            have HS := rel_step (k := .u64) (f := fun j => IntKind.u64.wrap ((z0.take len0).getD j 0 + c)) hys hlt hf hown hbel (IntKind.u64.wrap (v + c)) (by rw [hv])
            have HS' : Hid (∃ zs : List Int, zs.length = len0 ∧ (∀ j, j < k + 1 → zs.getD j 0 = IntKind.u64.wrap ((z0.take len0).getD j 0 + c)) ∧ (wr.setCell ⟨w2.heap.size, k, none⟩ (.int .u64 (IntKind.u64.wrap (v + c)))).ownsRow w2.heap.size 25 1 (.slice (some ⟨w2.heap.size, 0, none⟩) len0 len0) len0 (zs.map (Value.int .u64)) ∧ Below w2.heap.size w2 (wr.setCell ⟨w2.heap.size, k, none⟩ (.int .u64 (IntKind.u64.wrap (v + c))))) := HS
            clear hf hown HS hv
            go_wp2
            go_roundw
            case rel =>
              obtain ⟨zs, h1, h2, h3, h4⟩ := HS'.out
              exact ⟨k + 1, zs, by omega, by go_num, h1, h2, h3, h4⟩
            case measure => simp [intOf]; omega
          · obtain rfl : k = len0 := by omega
            have HF : Hid (∀ j, j < k → ys.getD j 0 = IntKind.u64.wrap ((z0.take k).getD j 0 + c)) := hf
            have HY : Hid (RowIn wr (some ⟨w2.heap.size, 0, none⟩) k k ys) := row_of_own hys hown
            have HX : Hid (RowIn wr (some ⟨w.heap.size, 0, none⟩) k k (z0.take k)) := HR.out.keep hbel
            clear hf hown
            go_wp2_with (first | (go_at_call 8; refine (gaps_any _ k k (z0.take k) _ HX.out (by omega)).mono ?_; rintro e w5 ⟨rfl, hg5, hb5, hs5⟩) | (go_at_call 8; refine (gaps_any _ k k ys _ (HY.out.keep hb5) (by omega)).mono ?_; rintro e w6 ⟨rfl, hg6, hb6, hs6⟩))
            have H6 : Hid (∀ j, j < k → w6.cell? ⟨w5.heap.size, j, none⟩ = some (.int .u64 (gapOf ys j))) := hg6
            have H5 : Hid (∀ j, j < k → w6.cell? ⟨wr.heap.size, j, none⟩ = some (.int .u64 (gapOf (z0.take k) j))) := fun j hj => (hb6.cell (by exact hs5)).trans (hg5 j hj)
            have HL : Hid (∀ j, j < k → w6.cell? ⟨w.heap.size, j, none⟩ = some (.int .u64 ((z0.take k).getD j 0))) := ((HX.out.keep hb5).keep hb6).cells
            have HB : Hid (Below w.heap.size w w6) := ((hb2.trans (hbel.mono hb2.size)).trans (hb5.mono (Nat.le_trans hb2.size hbel.size))).trans (hb6.mono (Nat.le_trans (Nat.le_trans hb2.size hbel.size) hb5.size))
            clear hg5 hg6 hb5 hb6 hs5 hs6 HX HY HR hbel hb2
            go_loopw [10] (fun i W => ∃ (t q : Nat), t ≤ k ∧ i = .int .i64 t ∧ W = w6.drewN q) (fun i _ => k - (intOf i).toNat)
            case atStart => exact ⟨0, 0, Nat.zero_le _, rfl, rfl⟩
            case round =>
              obtain ⟨t, q, ht, rfl, rfl⟩ := hrel
              by_cases hlt2 : t < k
              · by_cases ht0 : t = 0
                · subst ht0
                  have g6 := H6.out 0 hlt2
                  have g5 := H5.out 0 hlt2
                  have gl := HL.out 0 hlt2
                  rw [gap_zero_shift k c hlt2 HF.out] at g6
                  rw [gap_zero k HW.out] at g5
                  generalize (z0.take k).getD 0 0 = v at g5 g6 gl
                  have hpos : (0 : Int) < (k : Int) := by omega
                  go_wp2
                  go_quiet (fail)
                  go_wp2
                  go_roundw
                  case rel => exact ⟨1, _, by omega, by go_num, rfl⟩
                  case measure => simp [intOf]; omega
                · have g6 := H6.out t hlt2
                  have g5 := H5.out t hlt2
                  rw [gap_shift k t c hlt2 ht0 HF.out] at g6
                  generalize gapOf (z0.take k) t = v at g5 g6
                  have hti : (t : Int) < (k : Int) := by omega
                  have hti0 : ((t : Int) == 0) = false := by simp; omega
                  go_wp2
                  go_quiet (fail)
                  go_wp2
                  go_roundw
                  case rel => exact ⟨t + 1, _, by omega, by go_num, rfl⟩
                  case measure => simp [intOf]; omega
              · go_wp2
                go_ret
                exact ⟨rfl, HB.out.trans ⟨rfl, rfl, rfl, Nat.le_refl _, fun _ _ => rfl⟩⟩
end Go.Proofs.Qxb6609219a
