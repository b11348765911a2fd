/-
  THE WALK OF 'FnDifferencesAreGapsReadSigned'.
-/
import Derived.Test.Qxb6609219aParts
import Derived.Deep.QuietTactic
import Derived.BigQuiet
namespace Go.Proofs.Qxb6609219a
open Go.RowKit
set_option linter.unusedVariables false

set_option maxHeartbeats 800000 in
set_option maxRecDepth 1000000 in
theorem walkD (a0 : Option Addr) (len0 cap0 : Nat) (z0 : List Int) (w : World) (w0 : RowAt .u64 w a0 len0 cap0 z0) :
    Calls Try.prog 6 #[.slice a0 len0 cap0] w fun e w' => e = .returned (.bool true) ∧ Below w.heap.size w w' := by
  obtain ⟨i0, hi, hz0, hz1, hz2⟩ := info_parts Try.info25
  rcases w0 with ⟨rfl, rfl, rfl, rfl⟩ | ⟨x, rfl, hlc, hcm, hzl, hc, hw⟩
  · have hne := fun wx => run_neq_slice_nil_any (P := Try.prog) wx 22 25 none 0 0 0 0 Try.underlying22
    go_enter Try.func6, Try.ntmps6
    go_wp2_with (first | (go_at_call 11; refine (differences_any none 0 0 [] _ ⟨rfl, .inl ⟨rfl, rfl, rfl⟩⟩ (by omega)).mono ?_; rintro e w1 ⟨rfl, _, hb1, _⟩) | (go_at_call 8; refine (gaps_any none 0 0 [] _ ⟨rfl, .inl ⟨rfl, rfl, rfl⟩⟩ (by omega)).mono ?_; rintro e w2 ⟨rfl, _, hb2, _⟩) | go_in)
    refine wp_loop_rounds 1 ?_
    rw [rounds_succ]
    go_wp2
    go_ret
    exact ⟨rfl, hb1.trans (hb2.mono hb1.size)⟩
  · unfold maxLen at hcm
    have hne := fun wx => run_neq_slice_nil_any (P := Try.prog) wx 22 25 (some x) len0 cap0 0 0 Try.underlying22
    by_cases hbig : 1048576 < len0
    · go_enter Try.func6, Try.ntmps6
      go_wp2
      go_ret
      exact ⟨rfl, Below.refl _ _⟩
    · by_cases hmid : 131072 < len0
      · go_enter Try.func6, Try.ntmps6
        go_wp2
        go_ret
        exact ⟨rfl, Below.refl _ _⟩
      · have hlen : (z0.take len0).length = len0 := by simp; omega
        have hlz : len0 ≤ z0.length := by omega
        have HW : Hid (∀ m ∈ z0, (Lit.int .u64 m).wf = true) := hw
        go_enter Try.func6, Try.ntmps6
        go_wp2_with (first | (at_make; refine wpList_make_full _ rfl _ _ 22 rfl w.heap.size 25 i0 (.int .u64 0) 1 Try.underlying22 hi hz0 hz1 _ _ _ _ len0 rfl rfl rfl rfl ?b2 ?b3 (Nat.le_refl _) ?_) | go_in)
        case b2 => rw [hz2]; omega
        case b3 => unfold maxLen; omega
        intro w1 hown1 hgrow1
        obtain ⟨cur, hcs, hcur⟩ := made_row hown1
        have hsrc := src_cells hlz hc hgrow1
        have hb1 : Below w.heap.size w w1 := (Below.refl _ _).grown hgrow1 (Nat.le_refl _) (fun k h => by cases h)
        obtain ⟨xs, hxs⟩ : ∃ xs, xs = z0.take len0 := ⟨_, rfl⟩
        obtain ⟨CS, hCS⟩ : ∃ CS, CS = (z0.take len0).map (Value.int .u64) := ⟨_, rfl⟩
        have HCS : Hid (CS = (z0.take len0).map (Value.int .u64)) := hCS
        rw [← hCS] at hsrc
        have hCl : CS.length = len0 := by rw [hCS]; simp; omega
        have hC1 : ∀ v ∈ CS, v.oneCell' = true := by rw [hCS]; exact ints_oneCell _ _
        have HSRC : Hid (∀ j v, CS[j]? = some v → w1.cell? (x.add j) = some v) := hsrc
        have HC : Hid (w1.heap[w.heap.size]? = some (.cells cur.toList.toArray 25 (0, 0))) := hcur
        have HCl : Hid (CS.length = len0) := hCl
        clear hsrc hcur hCS hCl hc hw hown1 hgrow1
        go_wp2_with (refine wpList_copy_splice rfl (.tmp 22) (.tmp 23) 22 22 rfl 25 Try.underlying22 (by kernel_rfl) _ _ _ _ _ _ rfl rfl w.heap.size 0 cur.toList 25 HC.out CS (by rw [HCl.out]; simp) (fun _ => ⟨rfl, x, rfl, HSRC.out⟩) (by rw [HCl.out]; simp; omega) hC1 w.heap.size w hb1 (Nat.le_refl _) ?_)
        intro w2 H2 hb2
        have HR : Hid (RowIn w2 (some ⟨w.heap.size, 0, none⟩) len0 len0 (z0.take len0)) := row_of_copy hcs hlz (by have := H2.out; rwa [HCS.out] at this)
        clear H2 HC HSRC hb1 hC1
        go_wp2_with (first | (go_at_call 11; refine (differences_any _ len0 len0 (z0.take len0) _ HR.out (by omega)).mono ?_; rintro e w5 ⟨rfl, hg5, hb5, hs5⟩) | (go_at_call 8; refine (gaps_any _ len0 len0 (z0.take len0) _ (HR.out.keep hb5) (by omega)).mono ?_; rintro e w6 ⟨rfl, hg6, hb6, hs6⟩))
        have H6 : Hid (∀ j, j < len0 → w6.cell? ⟨w5.heap.size, j, none⟩ = some (.int .u64 (gapOf (z0.take len0) j))) := hg6
        have H5 : Hid (∀ j, j < len0 → w6.cell? ⟨w2.heap.size, j, none⟩ = some (.int .i64 (difOf (z0.take len0) j))) := fun j hj => (hb6.cell (by exact hs5)).trans (hg5 j hj)
        have HL : Hid (∀ j, j < len0 → w6.cell? ⟨w.heap.size, j, none⟩ = some (.int .u64 ((z0.take len0).getD j 0))) := ((HR.out.keep hb5).keep hb6).cells
        have HB : Hid (Below w.heap.size w w6) := (hb2.trans (hb5.mono hb2.size)).trans (hb6.mono (Nat.le_trans hb2.size hb5.size))
        clear hg5 hg6 hb5 hb6 hs5 hs6 HR hb2
        go_loopw [6, 7] (fun p i W => ∃ (t q : Nat), t ≤ len0 ∧ i = .int .i64 t ∧ p = .int .u64 (prevOf (z0.take len0) t) ∧ W = w6.drewN q) (fun _ i _ => len0 - (intOf i).toNat)
        case atStart => exact ⟨0, 0, Nat.zero_le _, rfl, rfl, rfl⟩
        case round =>
          obtain ⟨t, q, ht, rfl, rfl, rfl⟩ := hrel
          by_cases hlt : t < len0
          · have g6 := H6.out t hlt
            have g5 := H5.out t hlt
            have gl := HL.out t hlt
            have hdg := dif_gap (z0.take len0) t
            have hvr := wf_take len0 HW.out t
            have hpr := prevOf_range len0 t HW.out
            have HP : Hid (prevOf (z0.take len0) (t + 1) = (z0.take len0).getD t 0) := prevOf_len _ _ (by omega)
            have HG : Hid (gapOf (z0.take len0) t = IntKind.u64.wrap ((z0.take len0).getD t 0 - prevOf (z0.take len0) t)) := rfl
            have HD : Hid (difOf (z0.take len0) t = wrap64 (gapOf (z0.take len0) t)) := rfl
            generalize (z0.take len0).getD t 0 = v at gl HP hvr HG
            generalize prevOf (z0.take len0) t = p at hpr HG
            generalize gapOf (z0.take len0) t = g at g6 hdg HG HD
            generalize difOf (z0.take len0) t = d at g5 hdg HD
            have hti : (t : Int) < (len0 : Int) := by omega
            by_cases hge : p ≤ v
            · by_cases hsm : g < 9223372036854775808
              · have hd0 : ¬ d < 0 := by rw [HD.out, HG.out]; exact rise_small v p hpr.1 hvr.2 hge (by rw [← HG.out]; exact hsm)
                have hgm : IntKind.u64.wrap (v - p) = g := HG.out.symm
                clear hvr hpr
                go_wp2
                go_quiet (fail)
                go_wp2
                go_roundw
                case rel => exact ⟨t + 1, _, by omega, by go_num, by rw [HP.out], rfl⟩
                case measure => simp [intOf]; omega
              · have hd0 : d < 0 := by rw [HD.out, HG.out]; exact rise_great v p hpr.1 hvr.2 hge (by rw [← HG.out]; exact hsm)
                have hgm : IntKind.u64.wrap (v - p) = g := HG.out.symm
                clear hvr hpr
                go_wp2
                go_quiet (fail)
                go_wp2
                go_roundw
                case rel => exact ⟨t + 1, _, by omega, by go_num, by rw [HP.out], rfl⟩
                case measure => simp [intOf]; omega
            · obtain ⟨m, hm⟩ : ∃ m, IntKind.u64.wrap (p - v) = m := ⟨_, rfl⟩
              by_cases hsm : m ≤ 9223372036854775808
              · have hfs := fall_small v p hvr.1 hpr.2 (by omega) (by rw [hm]; exact hsm)
                rw [← HG.out, ← HD.out, hm] at hfs
                obtain ⟨hd0, hfs⟩ := hfs
                clear hvr hpr
                go_wp2
                go_quiet (fail)
                go_wp2
                go_roundw
                case rel => exact ⟨t + 1, _, by omega, by go_num, by rw [HP.out], rfl⟩
                case measure => simp [intOf]; omega
              · have hd0 : ¬ d ≤ 0 := by rw [HD.out, HG.out]; exact fall_great v p hvr.1 hpr.2 (by omega) (by rw [hm]; exact hsm)
                clear hvr hpr
                go_wp2
                go_quiet (fail)
                go_wp2
                go_roundw
                case rel => exact ⟨t + 1, _, by omega, by go_num, by rw [HP.out], rfl⟩
                case measure => simp [intOf]; omega
          · go_wp2
            go_ret
            exact ⟨rfl, HB.out.trans ⟨rfl, rfl, rfl, Nat.le_refl _, fun _ _ => rfl⟩⟩
end Go.Proofs.Qxb6609219a
