/-
  THE WALK OF 'FnTakeKeepsWindowOfLatest': its main road (answered not nil, case S).
-/
import Derived.Test.Qxb6612353aTakeL
namespace Go.Proofs.Qxb6612353a
open Go.RowKit
set_option linter.unusedVariables false

set_option maxHeartbeats 8000000 in
set_option maxRecDepth 100000 in
theorem take_walk_some_S (cnt : Int) (a1 : Option Addr) (n1 c1 p : Nat) (rs : List O) (x : Addr) (n3 c3 : Nat) (zs : List Int) (sum f t l : Int) (s : Int) (tt : Bool) (ll : Int) (w : World)
    (h1 : SlO w a1 n1 rs) (hz1 : a1 = none → c1 = 0) (h11 : n1 ≤ 1000) (hpn : p ≤ n1) (hp1 : p < 1000) (hcn : cnt ≤ 9223372036854775807) (hlc : n3 ≤ c3) (hn3 : n3 ≤ 1000) (hzl : zs.length = c3) (hc : ∀ i, i < zs.length → w.cell? (x.add i) = some (.int .i64 (zs.getD i 0))) (hx : SlZ w (some x) n3 (zs.take n3)) (hsh : shapeB cnt n1 (p : Int) = true) (hfig : figB (zs.take n3) sum f t l rs = true) (hp0 : p = 0) (hsm : n1 < 1000) :
    Calls Try.prog 3 #[.int .i64 cnt, .slice a1 n1 c1, .int .i64 (p : Int), .slice (some x) n3 c3, .int .i64 sum, .int .i64 f, .int .i64 t, .int .i64 l, .agg #[.int .i64 s, .bool tt, .int .i64 ll]] w fun e w' => e = .returned (.bool true) ∧ Later w w' := by
  have HR : Hid (SlO w a1 n1 rs) := h1
  have HN : Hid (rs.length = n1) := h1.1
  have HZ1 : Hid (a1 = none → n1 = 0 ∧ c1 = 0) := fun e => by
    refine ⟨?_, hz1 e⟩
    obtain ⟨_, h | ⟨b, off, h, _⟩⟩ := h1
    · exact h
    · rw [e] at h; cases h
  have HCN : Hid (cnt ≤ 9223372036854775807) := hcn
  have HSH : Hid (shapeB cnt n1 (p : Int) = true) := hsh
  have HFIG : Hid (figB (zs.take n3) sum f t l rs = true) := hfig
  have HXZ : Hid (SlZ w (some x) n3 (zs.take n3)) := hx
  obtain ⟨i0, hi, hz0, hz1', hz2⟩ := info_parts Try.info2
  obtain ⟨j0, hj, hy0, hy1, hy2⟩ := info_parts Try.info25
  have hne := fun wx => run_neq_slice_nil_any (P := Try.prog) wx 23 2 (some x) n3 c3 0 0 Try.underlying23
  have HP0 : Hid (p = 0) := hp0
  have HSM : Hid (n1 < 1000) := hsm
  have hdg : decide ((1000 : Int) < (n1 : Int) + 1) = false := by simp; omega
  have hdq : ((n1 : Int) == 1000) = false := by simp; omega
  clear hp0
  have hlz : n3 ≤ zs.length := by omega
  have HC : Hid (∀ i, i < zs.length → w.cell? (x.add i) = some (.int .i64 (zs.getD i 0))) := hc
  clear hc hlc hzl
  clear h1 hz1 hcn hsh hfig hx
  go_enter Try.func3, Try.ntmps3
  go_wp2_with (first | (go_at_call 7; refine (shape_is cnt n1 (p : Int) true HSH.out _ h11 HCN.out).mono ?_; rintro e w' ⟨rfl, rfl⟩) | (go_at_call 6; go_in))
  obtain ⟨W, hW⟩ : ∃ W, W = (w.alloc (.cells #[.int .i64 s, .bool tt, .int .i64 ll] 25)).alloc (.cells #[.int .i64 s, .bool tt, .int .i64 ll] 25) := ⟨_, rfl⟩
  have d0 : W.cell? ⟨w.heap.size, 0, none⟩ = some (.int .i64 s) := by rw [hW]; simp [go_sem]
  have d1 : W.cell? ⟨w.heap.size, 1, none⟩ = some (.bool tt) := by rw [hW]; simp [go_sem]
  have d2 : W.cell? ⟨w.heap.size, 2, none⟩ = some (.int .i64 ll) := by rw [hW]; simp [go_sem]
  have HLW : Hid (Later w W) := by show Later w W; rw [hW]; exact ((Later.refl w).alloc _).alloc _
  rw [← hW]
  clear hW
  refine (figures_gen_is true (some x) n3 c3 (zs.take n3) sum f t l a1 n1 c1 rs _ HFIG.out (by omega) (HXZ.out.keep HLW.out) (by omega) (HR.out.keep HLW.out)).mono ?_
  rintro e w1 ⟨rfl, hl1⟩
  have HL1 : Hid (Later w w1) := HLW.out.trans hl1
  replace d0 := hl1.cell d0
  replace d1 := hl1.cell d1
  replace d2 := hl1.cell d2
  have HD : Hid (w1.cell? ⟨w.heap.size, 0, none⟩ = some (.int .i64 s) ∧ w1.cell? ⟨w.heap.size, 1, none⟩ = some (.bool tt) ∧ w1.cell? ⟨w.heap.size, 2, none⟩ = some (.int .i64 ll)) := ⟨d0, d1, d2⟩
  clear hl1 HLW HXZ d0 d1 d2
  go_wp2_with (at_make; refine wpList_make_full _ rfl _ _ 23 rfl w1.heap.size 2 i0 _ 1 Try.underlying23 hi hz0 hz1' _ _ _ _ n3 rfl rfl rfl rfl ?b2 ?b3 (Nat.le_refl _) ?_)
  case b2 => rw [hz2]; omega
  case b3 => unfold maxLen; omega
  intro w2 hown1 hgrow1
  obtain ⟨cur, hcs, hcur⟩ := made_row hown1
  have HB1 : Hid (Below w1.heap.size w1 w2) := (Below.refl _ _).grown hgrow1 (Nat.le_refl _) (fun k h => by cases h)
  obtain ⟨CS, hCS⟩ : ∃ CS, CS = (zs.take n3).map (Value.int .i64) := ⟨_, rfl⟩
  have HCS : Hid (CS = (zs.take n3).map (Value.int .i64)) := hCS
  have HSRC : Hid (∀ j v, CS[j]? = some v → w2.cell? (x.add j) = some v) := by
    have hc0 : ∀ i, i < zs.length → w1.cell? (x.add i) = some (.int .i64 (zs.getD i 0)) := fun i hi => HL1.out.cell (HC.out i hi)
    have := src_cells hlz hc0 hgrow1
    rw [← hCS] at this
    exact this
  have HCl : Hid (CS.length = n3) := by show _ = _; rw [hCS]; simp; omega
  have HC1 : Hid (∀ v ∈ CS, v.oneCell' = true) := by show ∀ v ∈ CS, _; rw [hCS]; exact ints_oneCell _ _
  have HCU : Hid (w2.heap[w1.heap.size]? = some (.cells cur.toList.toArray 2 (0, 0))) := hcur
  have HCZ : Hid (cur.size = n3) := hcs
  clear hown1 hgrow1 hcur hCS hcs
  go_wp2_with (refine wpList_copy_splice rfl (.tmp 63) (.tmp 64) 23 23 rfl 2 Try.underlying23 (by kernel_rfl) _ _ _ _ _ _ rfl rfl w1.heap.size 0 cur.toList 2 HCU.out CS (by rw [HCl.out]; simp) (fun _ => ⟨rfl, x, rfl, HSRC.out⟩) (by rw [HCl.out]; have := HCZ.out; simp; omega) HC1.out w1.heap.size w1 HB1.out (Nat.le_refl _) ?_)
  intro V H2 hb2
  have HX : Hid (SlI V (some ⟨w1.heap.size, 0, none⟩) n3 (zs.take n3)) := row_of_copy HCZ.out hlz (by have := H2.out; rwa [HCS.out] at this)
  have HLV : Hid (Later w V) := HL1.out.trans hb2
  have HD' : Hid (V.cell? ⟨w.heap.size, 0, none⟩ = some (.int .i64 s) ∧ V.cell? ⟨w.heap.size, 1, none⟩ = some (.bool tt) ∧ V.cell? ⟨w.heap.size, 2, none⟩ = some (.int .i64 ll)) := by
    obtain ⟨d0, d1, d2⟩ := HD.out
    exact ⟨Later.cell hb2 d0, Later.cell hb2 d1, Later.cell hb2 d2⟩
  clear H2 hb2 HCU HSRC HC1 HCl HB1 HD HCS HCZ HC hlz HL1
  have HD := HD'
  clear HD'
  go_wp2_with fail
  -- toOutcomes
  have HVS : Hid (w.heap.size < V.heap.size) := World.block_lt_of_cell? V _ HD.out.1
  clear hne
  refine (toOutcomes_all a1 n1 c1 rs _ h11 (HR.out.keep HLV.out) HZ1.out).mono ?_
  rintro e w5 ⟨ra, rfl, hl5, hra⟩
  have HL5 : Hid (Later V w5) := hl5
  have HX5 : Hid (SlI w5 (some ⟨w1.heap.size, 0, none⟩) n3 (zs.take n3)) := HX.out.keep hl5
  have HRA : Hid ((ra = none ∧ n1 = 0) ∨ ∃ R, ra = some ⟨R, 0, none⟩ ∧ V.heap.size ≤ R ∧ R < w5.heap.size ∧ OutsUp w5 R 0 rs n1 ∧ Free w5 R (n1 * 3)) := hra
  clear hl5 hra HX
  go_wp2_with fail
  -- newWindow
  refine (newWindow_own cnt ra n1 n1 (p : Int) (some ⟨w1.heap.size, 0, none⟩) n3 n3 (zs.take n3) sum f t l _ (by omega) HX5.out (fun h => by cases h)).mono ?_
  rintro e w6 ⟨B, a6, rfl, hB6, hW6, hxl6, hA6, hl6⟩
  have HL6 : Hid (Later V w6) := HL5.out.trans hl6
  have HVB : Hid (V.heap.size ≤ B) := Nat.le_trans HL5.out.size hB6
  have HREC : Hid (RecAt w6 V.heap.size B ra n1 rs) := by
    rcases HRA.out with h | ⟨R, e1, e2, e3, e4, e5⟩
    · exact ⟨HN.out, .inl h⟩
    · exact ⟨HN.out, .inr ⟨R, e1, e2, by omega, e4.keep hl6, e5.keep hl6⟩⟩
  have HANS : Hid (AnsAt w6 V.heap.size B ra a6 n3 (zs.take n3)) := by
    refine ⟨hxl6, ?_⟩
    rcases hA6 with h | ⟨A, e1, e2, e3, e4, e5⟩
    · exact .inl h
    · refine .inr ⟨A, e1, Nat.le_trans HL5.out.size e2, e3, e4, fun R hR => ?_, e5⟩
      rcases HRA.out with ⟨h, _⟩ | ⟨R', h, _, h3, _⟩
      · rw [h] at hR; cases hR
      · rw [h] at hR; cases hR; omega
  have HW6 : Hid (Win w6 B cnt (.slice ra n1 n1) (p : Int) (.slice a6 n3 n3) sum f t l) := hW6
  obtain ⟨d0, d1, d2⟩ := HD.out
  replace d0 := HL6.out.cell d0
  replace d1 := HL6.out.cell d1
  replace d2 := HL6.out.cell d2
  clear hB6 hW6 hxl6 hA6 hl6 HX5 HL5 HRA
  go_wp2_with fail
  -- toOutcome
  refine (toOutcome_any s tt ll _).mono ?_
  rintro e w7 ⟨rfl, hl7⟩
  have HL7 : Hid (Later V w7) := HL6.out.trans hl7
  have HZT : Hid (Calls Try.prog 11 #[.pointer (some ⟨B, 0, none⟩), .agg #[.int .i64 s, .bool tt, .int .i64 ll]] w7 fun e w' => e = .returned (.tuple #[]) ∧ TakePost V.heap.size B (n1 + 1) 0 cnt (chronL rs p (s, tt, ll)) w7 w') :=
    ztake_S V.heap.size B cnt ra n1 p rs a6 n3 (zs.take n3) sum f t l s tt ll w7 (HW6.out.keep hl7) (HREC.out.keep hl7) (HANS.out.keep hl7) HP0.out HSM.out HVB.out HFIG.out
  clear hl7 d0 d1 d2 HW6 HREC HANS HL6
  go_wp2_with fail
  -- ZZtake
  refine HZT.out.mono ?_
  rintro e w8 ⟨rfl, hB8, g, gc, rs', a8, n8, c8, ys, sum', f', tm', lm', hW8, hg8, hO8, hX8, hN8, hF8, hrot⟩
  have HB8 : Hid (Below V.heap.size V w8) := (show Below V.heap.size V w7 from HL7.out).trans hB8
  have HL8 : Hid (Later w w8) := HLV.out.trans HB8.out
  have HD8 : Hid (w8.cell? ⟨w.heap.size, 0, none⟩ = some (.int .i64 s) ∧ w8.cell? ⟨w.heap.size, 1, none⟩ = some (.bool tt) ∧ w8.cell? ⟨w.heap.size, 2, none⟩ = some (.int .i64 ll)) := by
    obtain ⟨d0, d1, d2⟩ := HD.out
    exact ⟨Later.cell HB8.out d0, Later.cell HB8.out d1, Later.cell HB8.out d2⟩
  have HW8 : Hid (Win w8 B (wrap64 (cnt + 1)) (.slice (some ⟨g, 0, none⟩) (n1 + 1) gc) 0 (.slice a8 n8 c8) sum' f' tm' lm') := hW8
  have HG8 : Hid (g < w8.heap.size) := hg8
  have HO8 : Hid (OutsUp w8 g 0 rs' (n1 + 1)) := hO8
  have HX8 : Hid (SlI w8 a8 n8 ys) := hX8
  have HN8 : Hid (n8 ≤ 1001) := hN8
  have HF8 : Hid (figB ys sum' f' tm' lm' (chronL rs p (s, tt, ll)) = true) := hF8
  have HROT : Hid (∀ j, j < (n1 + 1) → rs'.getD ((0 + j) % (n1 + 1)) o0 = (chronL rs p (s, tt, ll)).getD j o0) := hrot
  clear hB8 hW8 hg8 hO8 hX8 hN8 hF8 hrot HZT HL7 HB8 HD HVB HVS HLV HFIG
  -- the outcomes in the order of their arrival
  go_wp2_with (at_make; refine wpList_make_own _ rfl _ _ 22 rfl w8.heap.size 25 j0 _ 3 Try.underlying22 hj hy0 hy1 _ _ _ (n1 + 1) rfl rfl rfl ?b5 ?b6 (Nat.le_refl _) ?_)
  case b5 => rw [hy2]; omega
  case b6 => unfold maxLen; omega
  intro w9 hown0 hgrow0
  have B0 : Hid (Below w8.heap.size w8 w9) := (Below.refl _ _).grown hgrow0 (Nat.le_refl _) (fun k h => by cases h)
  have O0 : Hid (w9.ownsRow w8.heap.size 25 3 (.slice (some ⟨w8.heap.size, 0, none⟩) 0 (n1 + 1)) 0 []) := hown0
  clear hown0 hgrow0
  go_wp2
  go_loopw [21, 22] (fun v i wr => ∃ (k m : Nat) (zz : List O), p ≤ k ∧ k ≤ n1 ∧ i = .int .i64 k ∧ zz = (rs.drop p).take (k - p) ∧ zz.length = m ∧ m + p = k ∧ v = .slice (some ⟨w8.heap.size, 0, none⟩) m (n1 + 1) ∧ wr.ownsRow w8.heap.size 25 3 (.slice (some ⟨w8.heap.size, 0, none⟩) m (n1 + 1)) m (outCells zz) ∧ Below w8.heap.size w8 wr) (fun _ i _ => n1 - (intOf i).toNat)
  case atStart => exact ⟨p, 0, [], Nat.le_refl _, hpn, rfl, by simp, rfl, by omega, rfl, O0.out, B0.out⟩
  case round =>
    clear O0 B0
    obtain ⟨k, m, zz, hpk, hk, rfl, hzz, hm, hmk, rfl, hown, hB⟩ := hrel
    by_cases hlt : k < n1
    · obtain ⟨_, h0 | ⟨b, off, rfl, hb, hu⟩⟩ := HR.out.keep HL8.out
      · omega
      obtain ⟨c0, c1, c2⟩ := hu k hlt
      replace c0 := (hB.cell (by exact hb)).trans c0
      replace c1 := (hB.cell (by exact hb)).trans c1
      replace c2 := (hB.cell (by exact hb)).trans c2
      have hki : (k : Int) < (n1 : Int) := by omega
      have HY : Hid (zz ++ [rs.getD k o0] = (rs.drop p).take (k + 1 - p)) := by
        show _ = _
        have hl : k - p < (rs.drop p).length := by have := HN.out; simp; omega
        rw [hzz, show k + 1 - p = k - p + 1 by omega, take_snoc _ _ hl, getDO_drop, show p + (k - p) = k by omega]
      have HM : Hid (zz.length = m) := hm
      have HB : Hid (Below w8.heap.size w8 wr) := hB
      have HZ : Hid (w8.heap.size ≤ wr.heap.size) := hB.size
      clear hzz hB hm hu
      generalize rs.getD k o0 = o at c0 c1 c2 HY
      obtain ⟨os, ot, ol⟩ := o
      go_wp2_with (at_builtin; refine wpList_append_fits _ rfl (.tmp 92) (.tmp 97) 22 rfl w8.heap.size 25 j0 3 Try.underlying22 hj hy1 w8.heap.size m (n1 + 1) _ rfl (hown.alloc _) ⟨wr.heap.size, 0, none⟩ 1 1 [.int .i64 os, .bool ot, .int .i64 ol] rfl rfl cells3 (by intro u hu; simp at hu; rcases hu with rfl | rfl | rfl <;> rfl) (by omega) ?_; intro w10 hown1 hgrow1)
      have HO1 : Hid (w10.ownsRow w8.heap.size 25 3 (.slice (some ⟨w8.heap.size, 0, none⟩) (m + 1) (n1 + 1)) (m + 1) (outCells (zz ++ [(os, ot, ol)]))) := by
        rw [outCells_app]; exact hown1
      have HB1 : Hid (Below w8.heap.size w8 w10) := (HB.out.alloc HZ.out _).grown hgrow1 (by have := HZ.out; simp; omega) (fun k hk => by cases hk; exact Nat.le_refl _)
      go_roundw
      case rel => exact ⟨k + 1, m + 1, zz ++ [(os, ot, ol)], by omega, by omega, by go_num, HY.out, by simp [HM.out], by omega, rfl, HO1.out, HB1.out⟩
      case measure => simp [intOf]; omega
    · obtain rfl : n1 = k := by omega
      have O1 : Hid (wr.ownsRow w8.heap.size 25 3 (.slice (some ⟨w8.heap.size, 0, none⟩) m (n1 + 1)) m (outCells zz)) := hown
      have B1 : Hid (Below w8.heap.size w8 wr) := hB
      have Z1 : Hid (zz = rs.drop p) := by
        show _ = _
        rw [hzz, List.take_of_length_le (by have := HN.out; simp; omega)]
      have M1 : Hid (zz.length = m) := hm
      clear hown hB hzz hm
      go_wp2
      go_loopw [21, 23] (fun v i wr => ∃ (k m : Nat) (zz : List O), k ≤ p ∧ i = .int .i64 k ∧ zz = rs.drop p ++ rs.take k ∧ zz.length = m ∧ m + p = n1 + k ∧ v = .slice (some ⟨w8.heap.size, 0, none⟩) m (n1 + 1) ∧ wr.ownsRow w8.heap.size 25 3 (.slice (some ⟨w8.heap.size, 0, none⟩) m (n1 + 1)) m (outCells zz) ∧ Below w8.heap.size w8 wr) (fun _ i _ => p - (intOf i).toNat)
      case atStart => exact ⟨0, m, zz, Nat.zero_le _, rfl, by rw [Z1.out]; simp, M1.out, by omega, rfl, O1.out, B1.out⟩
      case round =>
        clear O1 B1 Z1 M1 hmk
        obtain ⟨k, m, zz, hk, rfl, hzz, hm, hmk, rfl, hown, hB⟩ := hrel
        by_cases hlt : k < p
        · obtain ⟨_, h0 | ⟨b, off, rfl, hb, hu⟩⟩ := HR.out.keep HL8.out
          · omega
          obtain ⟨c0, c1, c2⟩ := hu k (by omega)
          replace c0 := (hB.cell (by exact hb)).trans c0
          replace c1 := (hB.cell (by exact hb)).trans c1
          replace c2 := (hB.cell (by exact hb)).trans c2
          have hki : (k : Int) < (p : Int) := by omega
          have hki2 : (k : Int) < (n1 : Int) := by omega
          have HY : Hid (zz ++ [rs.getD k o0] = rs.drop p ++ rs.take (k + 1)) := by
            show _ = _
            rw [hzz, take_snoc rs k (by have := HN.out; omega), List.append_assoc]
          have HM : Hid (zz.length = m) := hm
          have HB : Hid (Below w8.heap.size w8 wr) := hB
          have HZ : Hid (w8.heap.size ≤ wr.heap.size) := hB.size
          clear hzz hB hm hu
          generalize rs.getD k o0 = o at c0 c1 c2 HY
          obtain ⟨os, ot, ol⟩ := o
          go_wp2_with (at_builtin; refine wpList_append_fits _ rfl (.tmp 104) (.tmp 109) 22 rfl w8.heap.size 25 j0 3 Try.underlying22 hj hy1 w8.heap.size m (n1 + 1) _ rfl (hown.alloc _) ⟨wr.heap.size, 0, none⟩ 1 1 [.int .i64 os, .bool ot, .int .i64 ol] rfl rfl cells3 (by intro u hu; simp at hu; rcases hu with rfl | rfl | rfl <;> rfl) (by omega) ?_; intro w10 hown1 hgrow1)
          have HO1 : Hid (w10.ownsRow w8.heap.size 25 3 (.slice (some ⟨w8.heap.size, 0, none⟩) (m + 1) (n1 + 1)) (m + 1) (outCells (zz ++ [(os, ot, ol)]))) := by
            rw [outCells_app]; exact hown1
          have HB1 : Hid (Below w8.heap.size w8 w10) := (HB.out.alloc HZ.out _).grown hgrow1 (by have := HZ.out; simp; omega) (fun k hk => by cases hk; exact Nat.le_refl _)
          go_roundw
          case rel => exact ⟨k + 1, m + 1, zz ++ [(os, ot, ol)], by omega, by go_num, HY.out, by simp [HM.out], by omega, rfl, HO1.out, HB1.out⟩
          case measure => simp [intOf]; omega
        · obtain rfl : p = k := by omega
          obtain rfl : n1 = m := by omega
          have d0 := Later.cell hB HD8.out.1
          have d1 := Later.cell hB HD8.out.2.1
          have d2 := Later.cell hB HD8.out.2.2
          have HZZ : Hid (zz ++ [(s, tt, ll)] = chronL rs p (s, tt, ll)) := by show _ = _; rw [hzz]; rfl
          have HB : Hid (Below w8.heap.size w8 wr) := hB
          have HZ : Hid (w8.heap.size ≤ wr.heap.size) := hB.size
          have HM : Hid (zz.length = n1) := hm
          clear hzz hB hm
          go_wp2_with (at_builtin; refine wpList_append_fits _ rfl (.tmp 111) (.tmp 113) 22 rfl w8.heap.size 25 j0 3 Try.underlying22 hj hy1 w8.heap.size n1 (n1 + 1) _ rfl (hown.alloc _) ⟨wr.heap.size, 0, none⟩ 1 1 [.int .i64 s, .bool tt, .int .i64 ll] rfl rfl cells3 (by intro u hu; simp at hu; rcases hu with rfl | rfl | rfl <;> rfl) (by omega) ?_; intro w10 hown1 hgrow1)
          have HB1 : Hid (Below w8.heap.size w8 w10) := (HB.out.alloc HZ.out _).grown hgrow1 (by have := HZ.out; simp; omega) (fun k hk => by cases hk; exact Nat.le_refl _)
          have HC0 : Hid (OutsUp w10 w8.heap.size 0 (chronL rs p (s, tt, ll)) (n1 + 1)) := by
            have h : w10.ownsRow w8.heap.size 25 3 (.slice (some ⟨w8.heap.size, 0, none⟩) (n1 + 1) (n1 + 1)) (n1 + 1) (outCells (zz ++ [(s, tt, ll)])) := by rw [outCells_app]; exact hown1
            rw [HZZ.out] at h
            exact outs_of_own (by rw [chron_len _ _ _ (by have := HN.out; omega), HN.out]) h
          have HC10 : Hid (OutsUp w10 w8.heap.size 0 (chronL rs p (s, tt, ll)) (n1 + 1)) := HC0.out
          have HCZ10 : Hid (w8.heap.size < w10.heap.size) := (hown1.lt _ rfl).2
          have HL10 : Hid (Later w8 w10) := HB1.out
          have HCL : Hid ((chronL rs p (s, tt, ll)).length = (n1 + 1)) := by
            show _ = _
            have := chron_len rs p (s, tt, ll) (by have := HN.out; omega)
            have := HN.out
            omega
          clear hown1 hgrow1 hown HB1 HC0 HB HZ HM HZZ d0 d1 d2
          go_wp2_with fail
          -- count and next
          refine (get13 (HW8.out.keep HL10.out)).mono ?_
          rintro e w' ⟨rfl, rfl⟩
          go_wp2_with fail
          refine (get14 (HW8.out.keep HL10.out)).mono ?_
          rintro e w' ⟨rfl, rfl⟩
          go_wp2_with fail
          refine (get17 (HW8.out.keep HL10.out)).mono ?_
          rintro e w' ⟨rfl, rfl⟩
          go_wp2_with fail
          -- readOuts
          refine (readOuts_any g 0 (n1 + 1) gc rs' _ (by omega) (Nat.lt_of_lt_of_le HG8.out HL10.out.size) (HO8.out.keep HL10.out)).mono ?_
          rintro e w11 ⟨rfl, hO11, hl11, hz11⟩
          have HO11 : Hid (OutsUp w11 w10.heap.size 0 rs' (n1 + 1)) := hO11
          have HC11 : Hid (OutsUp w11 w8.heap.size 0 (chronL rs p (s, tt, ll)) (n1 + 1)) := HC10.out.keep hl11
          have HL11 : Hid (∀ q, Later w8 (w11.drewN q)) := fun q => (HL10.out.trans hl11).drewN q
          have HC11q : Hid (∀ q, SlO (w11.drewN q) (some ⟨w8.heap.size, 0, none⟩) (n1 + 1) (chronL rs p (s, tt, ll))) := fun q => ⟨HCL.out, .inr ⟨_, _, rfl, Nat.lt_of_lt_of_le HCZ10.out (hl11.drewN q).size, HC10.out.keep (hl11.drewN q)⟩⟩
          clear hO11 hl11 hz11
          have HROTC : Hid (∀ cc, Calls Try.prog 15 #[.slice (some ⟨w10.heap.size, 0, none⟩) (n1 + 1) (n1 + 1), .int .i64 0, .slice (some ⟨w8.heap.size, 0, none⟩) (n1 + 1) cc] w11 fun e w' => e = .returned (.bool true) ∧ ∃ q', w' = w11.drewN q') := fun cc =>
            rotation_true w10.heap.size 0 (n1 + 1) (n1 + 1) w8.heap.size 0 cc 0 rs' (chronL rs p (s, tt, ll)) w11 (by omega) (by omega) (by omega) HO11.out HC11.out HROT.out
          go_wp2_with fail
          refine (HROTC.out _).mono ?_
          rintro e w' ⟨rfl, q, rfl⟩
          go_wp2_with fail
          -- ZZanswered
          refine (zzanswered_any B (wrap64 (cnt + 1)) _ 0 a8 n8 c8 ys sum' f' tm' lm' _ HN8.out (HW8.out.keep (HL11.out q)) (HX8.out.keep (HL11.out q))).mono ?_
          rintro e w12 ⟨a12, c12, rfl, hX12, hl12⟩
          have HX12 : Hid (SlI w12 a12 n8 ys) := hX12
          have HL12 : Hid (Later w8 w12) := (HL11.out q).trans hl12
          have HW12 : Hid (Win w12 B (wrap64 (cnt + 1)) (.slice (some ⟨g, 0, none⟩) (n1 + 1) gc) 0 (.slice a8 n8 c8) sum' f' tm' lm') := HW8.out.keep HL12.out
          have HC12 : Hid (SlO w12 (some ⟨w8.heap.size, 0, none⟩) (n1 + 1) (chronL rs p (s, tt, ll))) := (HC11q.out q).keep hl12
          clear hX12 hl12
          go_wp2_with fail
          refine (get19 HW12.out).mono ?_
          rintro e w' ⟨rfl, rfl⟩
          go_wp2_with fail
          refine (get20 HW12.out).mono ?_
          rintro e w' ⟨rfl, rfl⟩
          go_wp2_with fail
          refine (get21 HW12.out).mono ?_
          rintro e w' ⟨rfl, rfl⟩
          go_wp2_with fail
          refine (get22 HW12.out).mono ?_
          rintro e w' ⟨rfl, rfl⟩
          go_wp2_with fail
          -- figuresAre
          refine (figures_is true a12 n8 c12 ys sum' f' tm' lm' (some ⟨w8.heap.size, 0, none⟩) (n1 + 1) _ (chronL rs p (s, tt, ll)) _ HF8.out (by omega) HX12.out HN8.out HC12.out).mono ?_
          rintro e w13 ⟨rfl, hl13⟩
          go_wp2_with fail
          go_ret
          exact ⟨rfl, HL8.out.trans (HL12.out.trans hl13)⟩
end Go.Proofs.Qxb6612353a
