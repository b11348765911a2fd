/-
  THE WALK OF 'FnAdmitCompletesFigures': its main road.
-/
import Derived.Test.Qxb6612353aGet
import Derived.Laws.CopyOwn
namespace Go.Proofs.Qxb6612353a
open Go.RowKit
set_option linter.unusedVariables false

/-- what the copy of the latencies leaves -/
theorem row_of_copy {w2 : World} {g n : Nat} {cur : Array Value} {zs : List Int} (hs : cur.size = n) (hn : n ≤ zs.length)
    (H : w2.heap[g]? = some (.cells (splice cur.toList 0 ((zs.take n).map (Value.int .i64))).toArray 2 (0, 0))) :
    SlI w2 (some ⟨g, 0, none⟩) n (zs.take n) := by
  have hl : (zs.take n).length = n := by simp; omega
  have e : splice cur.toList 0 ((zs.take n).map (Value.int .i64)) = (zs.take n).map (Value.int .i64) := by
    unfold splice
    rw [List.drop_of_length_le (by simp; omega)]
    simp
  rw [e] at H
  refine ⟨hl, .inr ⟨g, 0, rfl, (Array.getElem?_eq_some_iff.1 H).1, fun j hj => ?_⟩⟩
  rw [cell_of_row w2 g (0 + j) _ 2 (0, 0) H]
  rw [hl] at hj
  simp [hj, show j < zs.length by omega]
theorem made_row {w0 : World} {g n : Nat} {z : Value} (h : w0.ownsRow g 2 1 (.slice (some ⟨g, 0, none⟩) n n) n (madeCells #[z] n).toList) :
    ∃ cur : Array Value, cur.size = n ∧ w0.heap[g]? = some (.cells cur.toList.toArray 2 (0, 0)) := by
  rcases h.2 with ⟨h', _⟩ | ⟨g', cap', cur, h', _, hg, _, _, hs, _⟩
  · simp at h'
  · simp only [Value.slice.injEq, Option.some.injEq, Addr.mk.injEq, and_true, true_and] at h'
    obtain ⟨rfl, rfl⟩ := h'
    exact ⟨cur, by simpa using hs, by simpa using hg⟩
theorem src_cells {w w1 : World} {x : Addr} {n : Nat} {zs : List Int} (hn : n ≤ zs.length) (hc : ∀ i, i < zs.length → w.cell? (x.add i) = some (.int .i64 (zs.getD i 0))) (hg : w.grownBy w1 none) :
    ∀ j v, ((zs.take n).map (Value.int .i64))[j]? = some v → w1.cell? (x.add j) = some v := by
  intro j v hv
  have hj : j < n := by have := (List.getElem?_eq_some_iff.1 hv).1; simp at this; omega
  have hjz : j < zs.length := by omega
  have e : ((zs.take n).map (Value.int .i64))[j]? = some (.int .i64 (zs.getD j 0)) := by simp [hj, hjz]
  rw [e] at hv
  rw [← hv]
  exact hg.cell (hc j hjz) (by simp)

/-- THE REST OF THE LAW, AS A PREDICATE ON WHAT THE COPY LEFT: the walk from 'latestIndex' on is the same whether the latencies are nil or not. -/
theorem shape_is (cnt : Int) (n : Nat) (nxt : Int) (b : Bool) (h : shapeB cnt n nxt = b) (w : World) (hle : n ≤ 1000) (hc : cnt ≤ 9223372036854775807) :
    Calls Try.prog 7 #[.int .i64 cnt, .int .i64 n, .int .i64 nxt] w fun e w' => e = .returned (.bool b) ∧ w = w' := by
  rw [← h]; exact (shape_any cnt n nxt w hle hc).mono fun e w' hh => ⟨hh.1, hh.2.symm⟩
theorem latest_is (n : Nat) (nxt : Int) (p : Nat) (h : lastP n nxt = p) (w : World) (hle : n ≤ 1000) (h0 : 0 < n) (h1 : 0 ≤ nxt) (h2 : nxt < 1000) :
    Calls Try.prog 26 #[.int .i64 n, .int .i64 nxt] w fun e w' => e = .returned (.int .i64 p) ∧ w = w' := by
  rw [← h]; exact (latest_any n nxt w hle h0 h1 h2).mono fun e w' hh => ⟨hh.1, hh.2.symm⟩
theorem figures_is (b : Bool) (aa : Option Addr) (na ca : Nat) (xs : List Int) (sum f t l : Int) (a : Option Addr) (n cap : Nat) (rs : List O) (w : World) (hb : figB xs sum f t l rs = b) (hle : n ≤ 1001) (hx : SlI w aa na xs) (hna : na ≤ 1001) (h : SlO w a n rs) :
    Calls Try.prog 8 #[.slice aa na ca, .int .i64 sum, .int .i64 f, .int .i64 t, .int .i64 l, .slice a n cap] w fun e w' => e = .returned (.bool b) ∧ Later w w' := by
  rw [← hb]; exact figures_any aa na ca xs sum f t l a n cap rs w hle hx hna h

set_option maxHeartbeats 8000000 in
set_option maxRecDepth 100000 in
theorem admit_walk_nil (cnt : Int) (b1 off1 n1 c1 : Nat) (rs : List O) (nxt : Int)  (sum f t l : Int) (s : Int) (tt : Bool) (ll : Int) (w : World)
    (hn1 : rs.length = n1) (h10 : 0 < n1) (h11 : n1 ≤ 1000) (hb1 : b1 < w.heap.size) (hr : OutsUp w b1 off1 rs n1) (hcn : cnt ≤ 9223372036854775807)  :
    Calls Try.prog 5 #[.int .i64 cnt, .slice (some ⟨b1, off1, none⟩) n1 c1, .int .i64 nxt, .slice none 0 0, .int .i64 sum, .int .i64 f, .int .i64 t, .int .i64 l, .agg #[.int .i64 s, .bool tt, .int .i64 ll]] w fun e w' => e = .returned (.bool true) ∧ Later w w' := by
  have HR : Hid (OutsUp w b1 off1 rs n1) := hr
  have HN : Hid (rs.length = n1) := hn1
  have HCN : Hid (cnt ≤ 9223372036854775807) := hcn
  obtain ⟨i0, hi, hz0, hz1, hz2⟩ := info_parts Try.info2
  have hne := fun wx => run_neq_slice_nil_any (P := Try.prog) wx 23 2 none 0 0 0 0 Try.underlying23
  have hn0 : ((n1 : Int) == 0) = false := by simp; omega
  clear hr hn1 hcn
  cases hsh : shapeB cnt n1 nxt
  · have HSH : Hid (shapeB cnt n1 nxt = false) := hsh
    clear hsh
    go_enter Try.func5, Try.ntmps5
    go_wp2_with (first | (go_at_call 7; refine (shape_is cnt n1 nxt false HSH.out _ h11 HCN.out).mono ?_; rintro e w' ⟨rfl, rfl⟩) | go_in)
    go_ret
    exact ⟨rfl, ((Later.refl w).alloc _).alloc _⟩
  · have HSH : Hid (shapeB cnt n1 nxt = true) := hsh
    obtain ⟨q1, q2, _⟩ := shape_next h11 hsh
    obtain ⟨p, hp⟩ : ∃ p, lastP n1 nxt = p := ⟨_, rfl⟩
    have hpn : p < n1 := by rw [← hp]; exact lastP_lt h11 h10 hsh
    have HP : Hid (lastP n1 nxt = p) := hp
    clear hsh hp
    go_enter Try.func5, Try.ntmps5
    go_wp2_with (first | (go_at_call 7; refine (shape_is cnt n1 nxt true HSH.out _ h11 HCN.out).mono ?_; rintro e w' ⟨rfl, rfl⟩) | (go_at_call 26; refine (latest_is n1 nxt p HP.out _ h11 h10 q1 q2).mono ?_; rintro e w' ⟨rfl, rfl⟩) | go_in)
    obtain ⟨W, hW⟩ : ∃ W, W = (w.alloc (.cells #[.int .i64 s, .bool tt, .int .i64 ll] 25)).alloc (.cells #[.int .i64 s, .bool tt, .int .i64 ll] 25) := ⟨_, rfl⟩
    have d0 : W.cell? ⟨w.heap.size, 0, none⟩ = some (.int .i64 s) := by rw [hW]; simp [go_sem]
    have d1 : W.cell? ⟨w.heap.size, 1, none⟩ = some (.bool tt) := by rw [hW]; simp [go_sem]
    have d2 : W.cell? ⟨w.heap.size, 2, none⟩ = some (.int .i64 ll) := by rw [hW]; simp [go_sem]
    have HLW : Hid (Later w W) := by show Later w W; rw [hW]; exact ((Later.refl w).alloc _).alloc _
    have HX : Hid (SlI W none 0 []) := ⟨rfl, .inl ⟨rfl, rfl⟩⟩
    rw [← hW]
    clear hW
    obtain ⟨k0, k1, k2⟩ := (HR.out.keep HLW.out) p hpn
    obtain ⟨o, ho⟩ : ∃ o, rs.getD p o0 = o := ⟨_, rfl⟩
    rw [ho] at k0 k1 k2
    have HO : Hid (rs.getD p o0 = o) := ho
    clear ho
    obtain ⟨s', t', l'⟩ := o
    have hpi : (p : Int) < (n1 : Int) := by omega
    by_cases e1 : ¬ s' = s
    · go_region
      go_wp2
      go_ret
      exact ⟨rfl, HLW.out.drew⟩
    replace e1 := Classical.not_not.1 e1
    by_cases e2 : ¬ t' = tt
    · go_region
      go_wp2
      go_ret
      exact ⟨rfl, HLW.out.drew⟩
    replace e2 := Classical.not_not.1 e2
    by_cases e3 : ¬ l' = ll
    · go_region
      go_wp2
      go_ret
      exact ⟨rfl, HLW.out.drew⟩
    replace e3 := Classical.not_not.1 e3
    subst e1 e2 e3
    have HPM : Hid (rs.Perm ((s', t', l') :: wo rs p n1)) := by have := wo_perm rs p n1 HN.out hpn; rw [HO.out] at this; exact this
    have HLD : Hid (Later w W.drew) := HLW.out.drew
    have HRD : Hid (OutsUp W.drew b1 off1 rs n1) := HR.out.keep HLD.out
    have HBD : Hid (b1 < W.drew.heap.size) := Nat.lt_of_lt_of_le hb1 HLW.out.size
    have HXD : Hid (SlI W.drew none 0 []) := HX.out.keep (Later.refl W).drew
    have HML : Hid ((wo rs p n1).length ≤ n1) := wo_len_le rs p n1
    have HD0 : Hid (W.drew.cell? ⟨w.heap.size, 0, none⟩ = some (.int .i64 s') ∧ W.drew.cell? ⟨w.heap.size, 1, none⟩ = some (.bool t') ∧ W.drew.cell? ⟨w.heap.size, 2, none⟩ = some (.int .i64 l')) := ⟨d0, d1, d2⟩
    go_region
    generalize W.drew = V at *
    clear k0 k1 k2 d0 d1 d2 HLW HX hpi
    cases hfig : figB [] sum f t l (wo rs p n1)
    · have HFIG : Hid (figB [] sum f t l (wo rs p n1) = false) := hfig
      clear hfig
      go_wp2_with fail
      refine (without_any b1 off1 n1 c1 p rs _ HN.out h11 hpn HBD.out HRD.out).mono ?_
      rintro e w3 ⟨rfl, hO3, hl3, hz3⟩
      have H3 : Hid (SlO w3 (some ⟨V.heap.size, 0, none⟩) (wo rs p n1).length (wo rs p n1)) := ⟨rfl, .inr ⟨_, _, rfl, hz3, hO3⟩⟩
      have HX3 : Hid (SlI w3 none 0 []) := HXD.out.keep hl3
      have HL3 : Hid (Later w w3) := HLD.out.trans hl3
      clear hO3 hl3 hz3
      go_wp2_with fail
      refine (figures_is false none 0 0 [] sum f t l _ _ _ _ _ HFIG.out (by have := HML.out; omega) HX3.out (by omega) H3.out).mono ?_
      rintro e w4 ⟨rfl, hl4⟩
      go_wp2_with fail
      go_ret
      exact ⟨rfl, HL3.out.trans hl4⟩
    · have HFIG : Hid (figB [] sum f t l (wo rs p n1) = true) := hfig
      obtain ⟨fx, fs, ff, ft, fl⟩ := fig_true hfig
      have HSR : Hid (Srt []) := by show Srt _; rw [fx]; exact srt_srt _
      have bf : Hid (0 ≤ f ∧ f ≤ 1001) := by show _ ∧ _; rw [ff]; have h1 : nFail (wo rs p n1) ≤ (wo rs p n1).length := List.countP_le_length; have := HML.out; omega
      have bt : Hid (0 ≤ t ∧ t ≤ 1001) := by show _ ∧ _; rw [ft]; have h1 : nTime (wo rs p n1) ≤ (wo rs p n1).length := List.countP_le_length; have := HML.out; omega
      have bl : Hid (0 ≤ l ∧ l ≤ 1001) := by show _ ∧ _; rw [fl]; have h1 : nLim (wo rs p n1) ≤ (wo rs p n1).length := List.countP_le_length; have := HML.out; omega
      have HFIN : Hid (figB (ansIn s' l' []) (sumIn s' l' sum) (up (failB s') f) (up t' t) (up (s' == 429) l) rs = true) := admit_law s' t' l' HPM.out HFIG.out
      clear hfig fx fs ff ft fl
      go_wp2_with fail
      refine (without_any b1 off1 n1 c1 p rs _ HN.out h11 hpn HBD.out HRD.out).mono ?_
      rintro e w3 ⟨rfl, hO3, hl3, hz3⟩
      have H3 : Hid (SlO w3 (some ⟨V.heap.size, 0, none⟩) (wo rs p n1).length (wo rs p n1)) := ⟨rfl, .inr ⟨_, _, rfl, hz3, hO3⟩⟩
      have HX3 : Hid (SlI w3 none 0 []) := HXD.out.keep hl3
      have HL3 : Hid (Later V w3) := hl3
      clear hO3 hl3 hz3
      go_wp2_with fail
      refine (figures_is true none 0 0 [] sum f t l _ _ _ _ _ HFIG.out (by have := HML.out; omega) HX3.out (by omega) H3.out).mono ?_
      rintro e w4 ⟨rfl, hl4⟩
      have HV4 : Hid (Later V w4) := HL3.out.trans hl4
      have HX4 : Hid (SlI w4 none 0 []) := HX3.out.keep hl4
      clear hl4 H3 HX3 HL3 HFIG
      go_wp2_with fail
      -- toOutcomes
      refine (toOutcomes_any b1 off1 n1 c1 rs _ h11 (Nat.lt_of_lt_of_le HBD.out HV4.out.size) (HRD.out.keep HV4.out)).mono ?_
      rintro e w5 ⟨rfl, hO5, hF5, hl5, hz5⟩
      have HV5 : Hid (Later V w5) := HV4.out.trans hl5
      have HX5 : Hid (SlI w5 none 0 []) := HX4.out.keep hl5
      have HO5 : Hid (OutsUp w5 w4.heap.size 0 rs n1) := hO5
      have HZ5 : Hid (w4.heap.size < w5.heap.size) := hz5
      have HS45 : Hid (V.heap.size ≤ w4.heap.size) := HV4.out.size
      clear hO5 hF5 hl5 hz5 HV4 HX4
      go_wp2_with fail
      -- newWindow
      refine (newWindow_any cnt (some ⟨w4.heap.size, 0, none⟩) n1 n1 nxt none 0 0 [] sum f t l _ (by omega) HX5.out (fun _ => rfl)).mono ?_
      rintro e w6 ⟨B, a6, rfl, hB6, hW6, hX6, hl6⟩
      have HV6 : Hid (Later V w6) := HV5.out.trans hl6
      have HO6 : Hid (OutsUp w6 w4.heap.size 0 rs n1) := HO5.out.keep hl6
      have HRB : Hid (w4.heap.size ≠ B) := by show _ ≠ _; have := HZ5.out; omega
      have HVB : Hid (V.heap.size ≤ B) := by show _ ≤ _; have := HZ5.out; have := HS45.out; omega
      have HZ6 : Hid (w4.heap.size < w6.heap.size) := Nat.lt_of_lt_of_le HZ5.out hl6.size
      have HW6 : Hid (Win w6 B cnt (.slice (some ⟨w4.heap.size, 0, none⟩) n1 n1) nxt (.slice a6 0 0) sum f t l) := hW6
      have HX6 : Hid (SlB w6 B a6 0 []) := hX6
      obtain ⟨d0, d1, d2⟩ := HD0.out
      replace d0 := HV6.out.cell d0
      replace d1 := HV6.out.cell d1
      replace d2 := HV6.out.cell d2
      clear hB6 hW6 hX6 hl6 HX5 HV5 HO5 HZ5
      go_wp2_with fail
      -- toOutcome
      refine (toOutcome_any s' t' l' _).mono ?_
      rintro e w7 ⟨rfl, hl7⟩
      have HV7 : Hid (Later V w7) := HV6.out.trans hl7
      have HW7 : Hid (Win w7 B cnt (.slice (some ⟨w4.heap.size, 0, none⟩) n1 n1) nxt (.slice a6 0 0) sum f t l) := HW6.out.keep hl7
      have HX7 : Hid (SlB w7 B a6 0 []) := HX6.out.save (Save.of_later hl7)
      have HO7 : Hid (OutsUp w7 w4.heap.size 0 rs n1) := HO6.out.keep hl7
      have HZ7 : Hid (w4.heap.size < w7.heap.size) := Nat.lt_of_lt_of_le HZ6.out hl7.size
      clear hl7 d0 d1 d2 HW6 HX6 HO6 HV6 HZ6
      go_wp2_with fail
      -- ZZadmit
      refine (zzadmit_any B cnt _ nxt a6 0 [] sum f t l s' t' l' _ HW7.out HX7.out HSR.out (by omega) bf.out bt.out bl.out).mono ?_
      rintro e w8 ⟨rfl, hS8, a8, n8, c8, hW8, hX8⟩
      have HV8 : Hid (Later V w8) := Below.trans HV7.out (Below.mono (hS8.below (Nat.le_of_lt HW7.out.lt)) HVB.out)
      have HO8 : Hid (OutsUp w8 w4.heap.size 0 rs n1) := HO7.out.save hS8 HRB.out
      have HR8 : Hid (OutsUp w8 b1 off1 rs n1) := HRD.out.keep HV8.out
      have HZ8 : Hid (w4.heap.size < w8.heap.size) := Nat.lt_of_lt_of_le HZ7.out hS8.size
      have HW8 : Hid (Win w8 B cnt (.slice (some ⟨w4.heap.size, 0, none⟩) n1 n1) nxt (.slice a8 n8 c8) (sumIn s' l' sum) (up (failB s') f) (up t' t) (up (s' == 429) l)) := hW8
      have HX8 : Hid (SlI w8 a8 n8 (ansIn s' l' [])) := hX8.1
      have HN8 : Hid (n8 ≤ 1001) := by
        show n8 ≤ 1001
        rw [← hX8.1.1]
        unfold ansIn
        have hx0 : ([]).length = 0 := HX7.out.1.1
        split
        · omega
        · rw [insAt_len]; omega
      clear hS8 hW8 hX8 HW7 HX7 HO7 HV7 HZ7
      generalize sumIn s' l' sum = sum' at *
      generalize up (failB s') f = f' at *
      generalize up t' t = tm' at *
      generalize up (s' == 429) l = lm' at *
      generalize ansIn s' l' [] = xs' at *
      go_wp2_with fail
      refine (get13 HW8.out).mono ?_
      rintro e w' ⟨rfl, rfl⟩
      go_wp2_with fail
      refine (get14 HW8.out).mono ?_
      rintro e w' ⟨rfl, rfl⟩
      go_wp2_with fail
      refine (get17 HW8.out).mono ?_
      rintro e w' ⟨rfl, rfl⟩
      go_wp2_with fail
      -- readOuts
      refine (readOuts_any w4.heap.size 0 n1 n1 rs _ (by omega) HZ8.out HO8.out).mono ?_
      rintro e w9 ⟨rfl, hO9, hl9, hz9⟩
      have HO9 : Hid (OutsUp w9 w8.heap.size 0 rs n1) := hO9
      have HR9 : Hid (OutsUp w9 b1 off1 rs n1) := HR8.out.keep hl9
      have HV9 : Hid (∀ q, Later V (w9.drewN q)) := fun q => (HV8.out.trans hl9).drewN q
      have HW9 : Hid (∀ q, Win (w9.drewN q) B cnt (.slice (some ⟨w4.heap.size, 0, none⟩) n1 n1) nxt (.slice a8 n8 c8) sum' f' tm' lm') := fun q => HW8.out.keep (hl9.drewN q)
      have HX9 : Hid (∀ q, SlI (w9.drewN q) a8 n8 xs') := fun q => HX8.out.keep (hl9.drewN q)
      clear hO9 hl9 hz9 HO8 HW8 HX8 HR8
      go_wp2_with fail
      -- outsEqual
      refine (outsEqual_true w8.heap.size 0 n1 n1 b1 off1 c1 rs _ h11 HO9.out HR9.out).mono ?_
      rintro e w' ⟨rfl, q, rfl⟩
      go_wp2_with fail
      -- ZZanswered
      refine (zzanswered_any B cnt _ nxt a8 n8 c8 xs' sum' f' tm' lm' _ HN8.out (HW9.out q) (HX9.out q)).mono ?_
      rintro e w10 ⟨a10, c10, rfl, hX10, hl10⟩
      have HX10 : Hid (SlI w10 a10 n8 xs') := hX10
      have HW10 : Hid (Win w10 B cnt (.slice (some ⟨w4.heap.size, 0, none⟩) n1 n1) nxt (.slice a8 n8 c8) sum' f' tm' lm') := (HW9.out q).keep hl10
      have HV10 : Hid (Later V w10) := (HV9.out q).trans hl10
      clear hX10 hl10
      go_wp2_with fail
      refine (get19 HW10.out).mono ?_
      rintro e w' ⟨rfl, rfl⟩
      go_wp2_with fail
      refine (get20 HW10.out).mono ?_
      rintro e w' ⟨rfl, rfl⟩
      go_wp2_with fail
      refine (get21 HW10.out).mono ?_
      rintro e w' ⟨rfl, rfl⟩
      go_wp2_with fail
      refine (get22 HW10.out).mono ?_
      rintro e w' ⟨rfl, rfl⟩
      go_wp2_with fail
      -- figuresAre
      refine (figures_is true a10 n8 c10 xs' sum' f' tm' lm' (some ⟨b1, off1, none⟩) n1 c1 rs _ HFIN.out (by omega) HX10.out HN8.out ⟨HN.out, .inr ⟨b1, off1, rfl, Nat.lt_of_lt_of_le HBD.out HV10.out.size, HRD.out.keep HV10.out⟩⟩).mono ?_
      rintro e w11 ⟨rfl, hl11⟩
      go_wp2_with fail
      go_ret
      exact ⟨rfl, HLD.out.trans (HV10.out.trans hl11)⟩

set_option maxHeartbeats 8000000 in
set_option maxRecDepth 100000 in
theorem admit_walk_some (cnt : Int) (b1 off1 n1 c1 : Nat) (rs : List O) (nxt : Int) (x : Addr) (n3 c3 : Nat) (zs : List Int) (sum f t l : Int) (s : Int) (tt : Bool) (ll : Int) (w : World)
    (hn1 : rs.length = n1) (h10 : 0 < n1) (h11 : n1 ≤ 1000) (hb1 : b1 < w.heap.size) (hr : OutsUp w b1 off1 rs n1) (hcn : cnt ≤ 9223372036854775807) (hlc : n3 ≤ c3) (hn3 : n3 ≤ 1000) (hzl : zs.length = c3) (hc : ∀ i, i < zs.length → w.cell? (x.add i) = some (.int .i64 (zs.getD i 0))) :
    Calls Try.prog 5 #[.int .i64 cnt, .slice (some ⟨b1, off1, none⟩) n1 c1, .int .i64 nxt, .slice (some x) n3 c3, .int .i64 sum, .int .i64 f, .int .i64 t, .int .i64 l, .agg #[.int .i64 s, .bool tt, .int .i64 ll]] w fun e w' => e = .returned (.bool true) ∧ Later w w' := by
  have HR : Hid (OutsUp w b1 off1 rs n1) := hr
  have HN : Hid (rs.length = n1) := hn1
  have HCN : Hid (cnt ≤ 9223372036854775807) := hcn
  obtain ⟨i0, hi, hz0, hz1, hz2⟩ := info_parts Try.info2
  have hne := fun wx => run_neq_slice_nil_any (P := Try.prog) wx 23 2 (some x) n3 c3 0 0 Try.underlying23
  have hn0 : ((n1 : Int) == 0) = false := by simp; omega
  have hlz : n3 ≤ zs.length := by omega
  have HC : Hid (∀ i, i < zs.length → w.cell? (x.add i) = some (.int .i64 (zs.getD i 0))) := hc
  have HLC : Hid (n3 ≤ c3 ∧ zs.length = c3) := ⟨hlc, hzl⟩
  clear hc hlc hzl
  clear hr hn1 hcn
  cases hsh : shapeB cnt n1 nxt
  · have HSH : Hid (shapeB cnt n1 nxt = false) := hsh
    clear hsh
    go_enter Try.func5, Try.ntmps5
    go_wp2_with (first | (go_at_call 7; refine (shape_is cnt n1 nxt false HSH.out _ h11 HCN.out).mono ?_; rintro e w' ⟨rfl, rfl⟩) | go_in)
    go_ret
    exact ⟨rfl, ((Later.refl w).alloc _).alloc _⟩
  · have HSH : Hid (shapeB cnt n1 nxt = true) := hsh
    obtain ⟨q1, q2, _⟩ := shape_next h11 hsh
    obtain ⟨p, hp⟩ : ∃ p, lastP n1 nxt = p := ⟨_, rfl⟩
    have hpn : p < n1 := by rw [← hp]; exact lastP_lt h11 h10 hsh
    have HP : Hid (lastP n1 nxt = p) := hp
    clear hsh hp
    go_enter Try.func5, Try.ntmps5
    go_wp2_with (first | (go_at_call 7; refine (shape_is cnt n1 nxt true HSH.out _ h11 HCN.out).mono ?_; rintro e w' ⟨rfl, rfl⟩) | (go_at_call 25; go_in) | (at_make; refine wpList_make_full _ rfl _ _ 23 rfl (w.heap.size + 1 + 1) 2 i0 _ 1 Try.underlying23 hi hz0 hz1 _ _ _ _ n3 rfl rfl rfl rfl ?b2 ?b3 ?b4 ?_))
    case b2 => rw [hz2]; omega
    case b3 => unfold maxLen; omega
    case b4 => simp
    intro w1 hown1 hgrow1
    obtain ⟨W0, hW0⟩ : ∃ W0, W0 = (w.alloc (.cells #[.int .i64 s, .bool tt, .int .i64 ll] 25)).alloc (.cells #[.int .i64 s, .bool tt, .int .i64 ll] 25) := ⟨_, rfl⟩
    have hS0 : W0.heap.size = w.heap.size + 1 + 1 := by rw [hW0]; simp
    have HL0 : Hid (Later w W0) := by show Later w W0; rw [hW0]; exact ((Later.refl w).alloc _).alloc _
    have HD0' : Hid (W0.cell? ⟨w.heap.size, 0, none⟩ = some (.int .i64 s) ∧ W0.cell? ⟨w.heap.size, 1, none⟩ = some (.bool tt) ∧ W0.cell? ⟨w.heap.size, 2, none⟩ = some (.int .i64 ll)) := by show _ ∧ _; rw [hW0]; refine ⟨?_, ?_, ?_⟩ <;> simp [go_sem]
    rw [← hW0] at hgrow1
    obtain ⟨cur, hcs, hcur⟩ := made_row hown1
    have HB1 : Hid (Below W0.heap.size W0 w1) := (Below.refl _ _).grown hgrow1 (Nat.le_refl _) (fun k h => by cases h)
    obtain ⟨CS, hCS⟩ : ∃ CS, CS = (zs.take n3).map (Value.int .i64) := ⟨_, rfl⟩
    have HCS : Hid (CS = (zs.take n3).map (Value.int .i64)) := hCS
    have HSRC : Hid (∀ j v, CS[j]? = some v → w1.cell? (x.add j) = some v) := by
      have hc0 : ∀ i, i < zs.length → W0.cell? (x.add i) = some (.int .i64 (zs.getD i 0)) := fun i hi => HL0.out.cell (HC.out i hi)
      have := src_cells hlz hc0 hgrow1
      rw [← hCS] at this
      exact this
    have HCl : Hid (CS.length = n3) := by show _ = _; rw [hCS]; simp; omega
    have HC1 : Hid (∀ v ∈ CS, v.oneCell' = true) := by show ∀ v ∈ CS, _; rw [hCS]; exact ints_oneCell _ _
    have HCU : Hid (w1.heap[w.heap.size + 1 + 1]? = some (.cells cur.toList.toArray 2 (0, 0))) := hcur
    have HCZ : Hid (cur.size = n3) := hcs
    have HGS : Hid (W0.heap.size ≤ w.heap.size + 1 + 1) := Nat.le_of_eq hS0
    clear hown1 hgrow1 hcur hCS hcs hW0 hS0
    go_wp2_with (refine wpList_copy_splice rfl (.tmp 57) (.tmp 58) 23 23 rfl 2 Try.underlying23 (by kernel_rfl) _ _ _ _ _ _ rfl rfl (w.heap.size + 1 + 1) 0 cur.toList 2 HCU.out CS (by rw [HCl.out]; simp) (fun _ => ⟨rfl, x, rfl, HSRC.out⟩) (by rw [HCl.out]; have := HCZ.out; simp; omega) HC1.out W0.heap.size W0 HB1.out HGS.out ?_)
    intro W H2 hb2
    have HX : Hid (SlI W (some ⟨w.heap.size + 1 + 1, 0, none⟩) n3 (zs.take n3)) := row_of_copy HCZ.out hlz (by have := H2.out; rwa [HCS.out] at this)
    have HLW : Hid (Later w W) := HL0.out.trans hb2
    obtain ⟨d0, d1, d2⟩ := HD0'.out
    replace d0 := Later.cell hb2 d0
    replace d1 := Later.cell hb2 d1
    replace d2 := Later.cell hb2 d2
    clear H2 hb2 HCU HSRC HC1 HCl HB1 HD0' HCS HCZ HC HLC hlz HGS HL0
    clear W0
    go_wp2_with (go_at_call 26; refine (latest_is n1 nxt p HP.out _ h11 h10 q1 q2).mono ?_; rintro e w' ⟨rfl, rfl⟩)
    obtain ⟨k0, k1, k2⟩ := (HR.out.keep HLW.out) p hpn
    obtain ⟨o, ho⟩ : ∃ o, rs.getD p o0 = o := ⟨_, rfl⟩
    rw [ho] at k0 k1 k2
    have HO : Hid (rs.getD p o0 = o) := ho
    clear ho
    obtain ⟨s', t', l'⟩ := o
    have hpi : (p : Int) < (n1 : Int) := by omega
    by_cases e1 : ¬ s' = s
    · go_region
      go_wp2
      go_ret
      exact ⟨rfl, HLW.out.drew⟩
    replace e1 := Classical.not_not.1 e1
    by_cases e2 : ¬ t' = tt
    · go_region
      go_wp2
      go_ret
      exact ⟨rfl, HLW.out.drew⟩
    replace e2 := Classical.not_not.1 e2
    by_cases e3 : ¬ l' = ll
    · go_region
      go_wp2
      go_ret
      exact ⟨rfl, HLW.out.drew⟩
    replace e3 := Classical.not_not.1 e3
    subst e1 e2 e3
    have HPM : Hid (rs.Perm ((s', t', l') :: wo rs p n1)) := by have := wo_perm rs p n1 HN.out hpn; rw [HO.out] at this; exact this
    have HLD : Hid (Later w W.drew) := HLW.out.drew
    have HRD : Hid (OutsUp W.drew b1 off1 rs n1) := HR.out.keep HLD.out
    have HBD : Hid (b1 < W.drew.heap.size) := Nat.lt_of_lt_of_le hb1 HLW.out.size
    have HXD : Hid (SlI W.drew (some ⟨w.heap.size + 1 + 1, 0, none⟩) n3 (zs.take n3)) := HX.out.keep (Later.refl W).drew
    have HML : Hid ((wo rs p n1).length ≤ n1) := wo_len_le rs p n1
    have HD0 : Hid (W.drew.cell? ⟨w.heap.size, 0, none⟩ = some (.int .i64 s') ∧ W.drew.cell? ⟨w.heap.size, 1, none⟩ = some (.bool t') ∧ W.drew.cell? ⟨w.heap.size, 2, none⟩ = some (.int .i64 l')) := ⟨d0, d1, d2⟩
    go_region
    generalize W.drew = V at *
    clear k0 k1 k2 d0 d1 d2 HLW HX hpi
    cases hfig : figB (zs.take n3) sum f t l (wo rs p n1)
    · have HFIG : Hid (figB (zs.take n3) sum f t l (wo rs p n1) = false) := hfig
      clear hfig
      go_wp2_with fail
      refine (without_any b1 off1 n1 c1 p rs _ HN.out h11 hpn HBD.out HRD.out).mono ?_
      rintro e w3 ⟨rfl, hO3, hl3, hz3⟩
      have H3 : Hid (SlO w3 (some ⟨V.heap.size, 0, none⟩) (wo rs p n1).length (wo rs p n1)) := ⟨rfl, .inr ⟨_, _, rfl, hz3, hO3⟩⟩
      have HX3 : Hid (SlI w3 (some ⟨w.heap.size + 1 + 1, 0, none⟩) n3 (zs.take n3)) := HXD.out.keep hl3
      have HL3 : Hid (Later w w3) := HLD.out.trans hl3
      clear hO3 hl3 hz3
      go_wp2_with fail
      refine (figures_is false (some ⟨w.heap.size + 1 + 1, 0, none⟩) n3 n3 (zs.take n3) sum f t l _ _ _ _ _ HFIG.out (by have := HML.out; omega) HX3.out (by omega) H3.out).mono ?_
      rintro e w4 ⟨rfl, hl4⟩
      go_wp2_with fail
      go_ret
      exact ⟨rfl, HL3.out.trans hl4⟩
    · have HFIG : Hid (figB (zs.take n3) sum f t l (wo rs p n1) = true) := hfig
      obtain ⟨fx, fs, ff, ft, fl⟩ := fig_true hfig
      have HSR : Hid (Srt (zs.take n3)) := by show Srt _; rw [fx]; exact srt_srt _
      have bf : Hid (0 ≤ f ∧ f ≤ 1001) := by show _ ∧ _; rw [ff]; have h1 : nFail (wo rs p n1) ≤ (wo rs p n1).length := List.countP_le_length; have := HML.out; omega
      have bt : Hid (0 ≤ t ∧ t ≤ 1001) := by show _ ∧ _; rw [ft]; have h1 : nTime (wo rs p n1) ≤ (wo rs p n1).length := List.countP_le_length; have := HML.out; omega
      have bl : Hid (0 ≤ l ∧ l ≤ 1001) := by show _ ∧ _; rw [fl]; have h1 : nLim (wo rs p n1) ≤ (wo rs p n1).length := List.countP_le_length; have := HML.out; omega
      have HFIN : Hid (figB (ansIn s' l' (zs.take n3)) (sumIn s' l' sum) (up (failB s') f) (up t' t) (up (s' == 429) l) rs = true) := admit_law s' t' l' HPM.out HFIG.out
      clear hfig fx fs ff ft fl
      go_wp2_with fail
      refine (without_any b1 off1 n1 c1 p rs _ HN.out h11 hpn HBD.out HRD.out).mono ?_
      rintro e w3 ⟨rfl, hO3, hl3, hz3⟩
      have H3 : Hid (SlO w3 (some ⟨V.heap.size, 0, none⟩) (wo rs p n1).length (wo rs p n1)) := ⟨rfl, .inr ⟨_, _, rfl, hz3, hO3⟩⟩
      have HX3 : Hid (SlI w3 (some ⟨w.heap.size + 1 + 1, 0, none⟩) n3 (zs.take n3)) := HXD.out.keep hl3
      have HL3 : Hid (Later V w3) := hl3
      clear hO3 hl3 hz3
      go_wp2_with fail
      refine (figures_is true (some ⟨w.heap.size + 1 + 1, 0, none⟩) n3 n3 (zs.take n3) sum f t l _ _ _ _ _ HFIG.out (by have := HML.out; omega) HX3.out (by omega) H3.out).mono ?_
      rintro e w4 ⟨rfl, hl4⟩
      have HV4 : Hid (Later V w4) := HL3.out.trans hl4
      have HX4 : Hid (SlI w4 (some ⟨w.heap.size + 1 + 1, 0, none⟩) n3 (zs.take n3)) := HX3.out.keep hl4
      clear hl4 H3 HX3 HL3 HFIG
      go_wp2_with fail
      -- toOutcomes
      refine (toOutcomes_any b1 off1 n1 c1 rs _ h11 (Nat.lt_of_lt_of_le HBD.out HV4.out.size) (HRD.out.keep HV4.out)).mono ?_
      rintro e w5 ⟨rfl, hO5, hF5, hl5, hz5⟩
      have HV5 : Hid (Later V w5) := HV4.out.trans hl5
      have HX5 : Hid (SlI w5 (some ⟨w.heap.size + 1 + 1, 0, none⟩) n3 (zs.take n3)) := HX4.out.keep hl5
      have HO5 : Hid (OutsUp w5 w4.heap.size 0 rs n1) := hO5
      have HZ5 : Hid (w4.heap.size < w5.heap.size) := hz5
      have HS45 : Hid (V.heap.size ≤ w4.heap.size) := HV4.out.size
      clear hO5 hF5 hl5 hz5 HV4 HX4
      go_wp2_with fail
      -- newWindow
      refine (newWindow_any cnt (some ⟨w4.heap.size, 0, none⟩) n1 n1 nxt (some ⟨w.heap.size + 1 + 1, 0, none⟩) n3 n3 (zs.take n3) sum f t l _ (by omega) HX5.out (fun h => by cases h)).mono ?_
      rintro e w6 ⟨B, a6, rfl, hB6, hW6, hX6, hl6⟩
      have HV6 : Hid (Later V w6) := HV5.out.trans hl6
      have HO6 : Hid (OutsUp w6 w4.heap.size 0 rs n1) := HO5.out.keep hl6
      have HRB : Hid (w4.heap.size ≠ B) := by show _ ≠ _; have := HZ5.out; omega
      have HVB : Hid (V.heap.size ≤ B) := by show _ ≤ _; have := HZ5.out; have := HS45.out; omega
      have HZ6 : Hid (w4.heap.size < w6.heap.size) := Nat.lt_of_lt_of_le HZ5.out hl6.size
      have HW6 : Hid (Win w6 B cnt (.slice (some ⟨w4.heap.size, 0, none⟩) n1 n1) nxt (.slice a6 n3 n3) sum f t l) := hW6
      have HX6 : Hid (SlB w6 B a6 n3 (zs.take n3)) := hX6
      obtain ⟨d0, d1, d2⟩ := HD0.out
      replace d0 := HV6.out.cell d0
      replace d1 := HV6.out.cell d1
      replace d2 := HV6.out.cell d2
      clear hB6 hW6 hX6 hl6 HX5 HV5 HO5 HZ5
      go_wp2_with fail
      -- toOutcome
      refine (toOutcome_any s' t' l' _).mono ?_
      rintro e w7 ⟨rfl, hl7⟩
      have HV7 : Hid (Later V w7) := HV6.out.trans hl7
      have HW7 : Hid (Win w7 B cnt (.slice (some ⟨w4.heap.size, 0, none⟩) n1 n1) nxt (.slice a6 n3 n3) sum f t l) := HW6.out.keep hl7
      have HX7 : Hid (SlB w7 B a6 n3 (zs.take n3)) := HX6.out.save (Save.of_later hl7)
      have HO7 : Hid (OutsUp w7 w4.heap.size 0 rs n1) := HO6.out.keep hl7
      have HZ7 : Hid (w4.heap.size < w7.heap.size) := Nat.lt_of_lt_of_le HZ6.out hl7.size
      clear hl7 d0 d1 d2 HW6 HX6 HO6 HV6 HZ6
      go_wp2_with fail
      -- ZZadmit
      refine (zzadmit_any B cnt _ nxt a6 n3 (zs.take n3) sum f t l s' t' l' _ HW7.out HX7.out HSR.out (by omega) bf.out bt.out bl.out).mono ?_
      rintro e w8 ⟨rfl, hS8, a8, n8, c8, hW8, hX8⟩
      have HV8 : Hid (Later V w8) := Below.trans HV7.out (Below.mono (hS8.below (Nat.le_of_lt HW7.out.lt)) HVB.out)
      have HO8 : Hid (OutsUp w8 w4.heap.size 0 rs n1) := HO7.out.save hS8 HRB.out
      have HR8 : Hid (OutsUp w8 b1 off1 rs n1) := HRD.out.keep HV8.out
      have HZ8 : Hid (w4.heap.size < w8.heap.size) := Nat.lt_of_lt_of_le HZ7.out hS8.size
      have HW8 : Hid (Win w8 B cnt (.slice (some ⟨w4.heap.size, 0, none⟩) n1 n1) nxt (.slice a8 n8 c8) (sumIn s' l' sum) (up (failB s') f) (up t' t) (up (s' == 429) l)) := hW8
      have HX8 : Hid (SlI w8 a8 n8 (ansIn s' l' (zs.take n3))) := hX8.1
      have HN8 : Hid (n8 ≤ 1001) := by
        show n8 ≤ 1001
        rw [← hX8.1.1]
        unfold ansIn
        have hx0 : ((zs.take n3)).length = n3 := HX7.out.1.1
        split
        · omega
        · rw [insAt_len]; omega
      clear hS8 hW8 hX8 HW7 HX7 HO7 HV7 HZ7
      generalize sumIn s' l' sum = sum' at *
      generalize up (failB s') f = f' at *
      generalize up t' t = tm' at *
      generalize up (s' == 429) l = lm' at *
      generalize ansIn s' l' (zs.take n3) = xs' at *
      go_wp2_with fail
      refine (get13 HW8.out).mono ?_
      rintro e w' ⟨rfl, rfl⟩
      go_wp2_with fail
      refine (get14 HW8.out).mono ?_
      rintro e w' ⟨rfl, rfl⟩
      go_wp2_with fail
      refine (get17 HW8.out).mono ?_
      rintro e w' ⟨rfl, rfl⟩
      go_wp2_with fail
      -- readOuts
      refine (readOuts_any w4.heap.size 0 n1 n1 rs _ (by omega) HZ8.out HO8.out).mono ?_
      rintro e w9 ⟨rfl, hO9, hl9, hz9⟩
      have HO9 : Hid (OutsUp w9 w8.heap.size 0 rs n1) := hO9
      have HR9 : Hid (OutsUp w9 b1 off1 rs n1) := HR8.out.keep hl9
      have HV9 : Hid (∀ q, Later V (w9.drewN q)) := fun q => (HV8.out.trans hl9).drewN q
      have HW9 : Hid (∀ q, Win (w9.drewN q) B cnt (.slice (some ⟨w4.heap.size, 0, none⟩) n1 n1) nxt (.slice a8 n8 c8) sum' f' tm' lm') := fun q => HW8.out.keep (hl9.drewN q)
      have HX9 : Hid (∀ q, SlI (w9.drewN q) a8 n8 xs') := fun q => HX8.out.keep (hl9.drewN q)
      clear hO9 hl9 hz9 HO8 HW8 HX8 HR8
      go_wp2_with fail
      -- outsEqual
      refine (outsEqual_true w8.heap.size 0 n1 n1 b1 off1 c1 rs _ h11 HO9.out HR9.out).mono ?_
      rintro e w' ⟨rfl, q, rfl⟩
      go_wp2_with fail
      -- ZZanswered
      refine (zzanswered_any B cnt _ nxt a8 n8 c8 xs' sum' f' tm' lm' _ HN8.out (HW9.out q) (HX9.out q)).mono ?_
      rintro e w10 ⟨a10, c10, rfl, hX10, hl10⟩
      have HX10 : Hid (SlI w10 a10 n8 xs') := hX10
      have HW10 : Hid (Win w10 B cnt (.slice (some ⟨w4.heap.size, 0, none⟩) n1 n1) nxt (.slice a8 n8 c8) sum' f' tm' lm') := (HW9.out q).keep hl10
      have HV10 : Hid (Later V w10) := (HV9.out q).trans hl10
      clear hX10 hl10
      go_wp2_with fail
      refine (get19 HW10.out).mono ?_
      rintro e w' ⟨rfl, rfl⟩
      go_wp2_with fail
      refine (get20 HW10.out).mono ?_
      rintro e w' ⟨rfl, rfl⟩
      go_wp2_with fail
      refine (get21 HW10.out).mono ?_
      rintro e w' ⟨rfl, rfl⟩
      go_wp2_with fail
      refine (get22 HW10.out).mono ?_
      rintro e w' ⟨rfl, rfl⟩
      go_wp2_with fail
      -- figuresAre
      refine (figures_is true a10 n8 c10 xs' sum' f' tm' lm' (some ⟨b1, off1, none⟩) n1 c1 rs _ HFIN.out (by omega) HX10.out HN8.out ⟨HN.out, .inr ⟨b1, off1, rfl, Nat.lt_of_lt_of_le HBD.out HV10.out.size, HRD.out.keep HV10.out⟩⟩).mono ?_
      rintro e w11 ⟨rfl, hl11⟩
      go_wp2_with fail
      go_ret
      exact ⟨rfl, HLD.out.trans (HV10.out.trans hl11)⟩
end Go.Proofs.Qxb6612353a
