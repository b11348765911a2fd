/-
  THE WALK OF 'FnDifferencesPrefixSumsRebuildGaps'.
-/
import Derived.Test.Qxb6609219aParts
namespace Go.Proofs.Qxb6609219a
open Go.RowKit
set_option linter.unusedVariables false

set_option maxHeartbeats 800000 in
set_option maxRecDepth 1000000 in
theorem walkC (a0 : Option Addr) (len0 cap0 : Nat) (z0 : List Int) (w : World) (w0 : RowAt .u64 w a0 len0 cap0 z0) :
    Calls Try.prog 5 #[.slice a0 len0 cap0] w fun e w' => e = .returned (.bool true) ∧ Below w.heap.size w w' := by
  obtain ⟨i0, hi, hz0, hz1, hz2⟩ := info_parts Try.info25
  rcases w0 with ⟨rfl, rfl, rfl, rfl⟩ | ⟨x, rfl, hlc, hcm, hzl, hc, hw⟩
  · have hne := fun wx => run_neq_slice_nil_any (P := Try.prog) wx 22 25 none 0 0 0 0 Try.underlying22
    go_enter Try.func5, Try.ntmps5
    go_wp2_with (first | (go_at_call 11; refine (differences_any none 0 0 [] _ ⟨rfl, .inl ⟨rfl, rfl, rfl⟩⟩ (by omega)).mono ?_; rintro e w1 ⟨rfl, _, hbel, _⟩) | go_in)
    refine wp_loop_rounds 1 ?_
    rw [rounds_succ]
    go_wp2
    go_ret
    exact ⟨rfl, hbel⟩
  · unfold maxLen at hcm
    have hne := fun wx => run_neq_slice_nil_any (P := Try.prog) wx 22 25 (some x) len0 cap0 0 0 Try.underlying22
    by_cases hbig : 1048576 < len0
    · go_enter Try.func5, Try.ntmps5
      go_wp2
      go_ret
      exact ⟨rfl, Below.refl _ _⟩
    · by_cases hmid : 131072 < len0
      · go_enter Try.func5, Try.ntmps5
        go_wp2
        go_ret
        exact ⟨rfl, Below.refl _ _⟩
      · have hlen : (z0.take len0).length = len0 := by simp; omega
        have hlz : len0 ≤ z0.length := by omega
        have HSUM : Hid (∀ k, IntKind.u64.wrap (prevOf (z0.take len0) k + IntKind.u64.wrap (difOf (z0.take len0) k)) = (z0.take len0).getD k 0) := fun k => dif_step len0 k hw
        go_enter Try.func5, Try.ntmps5
        go_wp2_with (first | (at_make; refine wpList_make_full _ rfl _ _ 22 rfl w.heap.size 25 i0 (.int .u64 0) 1 Try.underlying22 hi hz0 hz1 _ _ _ _ len0 rfl rfl rfl rfl ?b2 ?b3 (Nat.le_refl _) ?_) | go_in)
        case b2 => rw [hz2]; omega
        case b3 => unfold maxLen; omega
        intro w1 hown1 hgrow1
        obtain ⟨cur, hcs, hcur⟩ := made_row hown1
        have hsrc := src_cells hlz hc hgrow1
        have hb1 : Below w.heap.size w w1 := (Below.refl _ _).grown hgrow1 (Nat.le_refl _) (fun k h => by cases h)
        obtain ⟨xs, hxs⟩ : ∃ xs, xs = z0.take len0 := ⟨_, rfl⟩
        obtain ⟨CS, hCS⟩ : ∃ CS, CS = (z0.take len0).map (Value.int .u64) := ⟨_, rfl⟩
        have HCS : Hid (CS = (z0.take len0).map (Value.int .u64)) := hCS
        rw [← hCS] at hsrc
        have hCl : CS.length = len0 := by rw [hCS]; simp; omega
        have hC1 : ∀ v ∈ CS, v.oneCell' = true := by rw [hCS]; exact ints_oneCell _ _
        have HSRC : Hid (∀ j v, CS[j]? = some v → w1.cell? (x.add j) = some v) := hsrc
        have HC : Hid (w1.heap[w.heap.size]? = some (.cells cur.toList.toArray 25 (0, 0))) := hcur
        have HCl : Hid (CS.length = len0) := hCl
        clear hsrc hcur hCS hCl hc hw hown1 hgrow1
        go_wp2_with (refine wpList_copy_splice rfl (.tmp 18) (.tmp 19) 22 22 rfl 25 Try.underlying22 (by kernel_rfl) _ _ _ _ _ _ rfl rfl w.heap.size 0 cur.toList 25 HC.out CS (by rw [HCl.out]; simp) (fun _ => ⟨rfl, x, rfl, HSRC.out⟩) (by rw [HCl.out]; simp; omega) hC1 w.heap.size w hb1 (Nat.le_refl _) ?_)
        intro w2 H2 hb2
        have hrow : RowIn w2 (some ⟨w.heap.size, 0, none⟩) len0 len0 (z0.take len0) := row_of_copy hcs hlz (by have := H2.out; rwa [HCS.out] at this)
        have HR : Hid (RowIn w2 (some ⟨w.heap.size, 0, none⟩) len0 len0 (z0.take len0)) := hrow
        clear hrow H2 HC HSRC hb1 hC1
        go_wp2_with (go_at_call 11; refine (differences_any _ len0 len0 (z0.take len0) _ HR.out (by omega)).mono ?_; rintro e w3 ⟨rfl, hcg, hb3, hs3⟩)
        have hcl : ∀ j, j < len0 → w3.cell? ⟨w.heap.size, j, none⟩ = some (.int .u64 ((z0.take len0).getD j 0)) := cells_kept HR.out hb3
        have HCG : Hid (∀ j, j < len0 → w3.cell? ⟨w2.heap.size, j, none⟩ = some (.int .i64 (difOf (z0.take len0) j))) := hcg
        have HCL : Hid (∀ j, j < len0 → w3.cell? ⟨w.heap.size, j, none⟩ = some (.int .u64 ((z0.take len0).getD j 0))) := hcl
        clear hcg hcl HR
        go_loop [5, 6] (fun s i => ∃ k : Nat, k ≤ len0 ∧ i = .int .i64 k ∧ s = .int .u64 (prevOf (z0.take len0) k)) (fun _ i => len0 - (intOf i).toNat)
        case atStart => exact ⟨0, Nat.zero_le _, rfl, rfl⟩
        case round =>
          obtain ⟨k, hk, rfl, rfl⟩ := hrel
          by_cases hlt : k < len0
          · have h1 := HCG.out k hlt
            have h2 := HCL.out k hlt
            have h3 := HSUM.out k
            have HP : Hid (prevOf (z0.take len0) (k + 1) = (z0.take len0).getD k 0) := prevOf_len _ _ (by omega)
            generalize (z0.take len0).getD k 0 = v at h2 h3 HP
            generalize difOf (z0.take len0) k = g at h1 h3
            generalize prevOf (z0.take len0) k = p at h3
            go_wp2
            go_round
            case rel => exact ⟨k + 1, by omega, by go_num, by rw [HP.out]⟩
            case measure => simp [intOf]; omega
          · go_wp2
            go_ret
            exact ⟨rfl, hb2.trans (hb3.mono hb2.size)⟩
end Go.Proofs.Qxb6609219a
