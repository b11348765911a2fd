/-
  'figuresAre'.
-/
import Derived.Test.Qxb6612353aAnsw
namespace Go.Proofs.Qxb6612353a
open Go.RowKit
set_option linter.unusedVariables false

theorem failedByDoc_is (s : Int) (t : Bool) (l : Int) (b : Bool) (h : failB s = b) (w : World) : Calls Try.prog 32 #[.agg #[.int .i64 s, .bool t, .int .i64 l]] w fun e w' => e = .returned (.bool b) ∧ Later w w' := by
  rw [← h]; exact failedByDoc_any s t l w

theorem nFail_snoc (rs : List O) (o : O) : nFail (rs ++ [o]) = nFail rs + (failB o.1).toNat := by
  unfold nFail; rw [List.countP_append]; cases h : failB o.1 <;> simp [h]
theorem nTime_snoc (rs : List O) (o : O) : nTime (rs ++ [o]) = nTime rs + o.2.1.toNat := by
  unfold nTime; rw [List.countP_append]; cases h : o.2.1 <;> simp [h]
theorem nLim_snoc (rs : List O) (o : O) : nLim (rs ++ [o]) = nLim rs + (o.1 == 429).toNat := by
  unfold nLim; rw [List.countP_append]; cases h : o.1 == 429 <;> simp_all

theorem fig_false_len {xs : List Int} {rs : List O} (h : xs.length ≠ (srt (ansL rs)).length) (sum f t l : Int) : figB xs sum f t l rs = false := by
  unfold figB
  rw [decide_eq_false (fun e => h (by rw [e]))]; rfl
theorem fig_false_at {xs : List Int} {rs : List O} (k : Nat) (h : xs.getD k 0 ≠ (srt (ansL rs)).getD k 0) (sum f t l : Int) : figB xs sum f t l rs = false := by
  unfold figB
  rw [decide_eq_false (fun e => h (by rw [e]))]; rfl
theorem fig_false_sum {xs : List Int} {rs : List O} {sum : Int} (h : sum ≠ wsum (srt (ansL rs))) (f t l : Int) : figB xs sum f t l rs = false := by
  unfold figB
  rw [decide_eq_false h, Bool.false_and, Bool.and_false]
theorem fig_rest {xs : List Int} {rs : List O} {sum : Int} (h1 : xs = srt (ansL rs)) (h2 : sum = wsum (srt (ansL rs))) (f t l : Int) : figB xs sum f t l rs = (decide (f = nFail rs) && (decide (t = nTime rs) && decide (l = nLim rs))) := by
  unfold figB
  rw [decide_eq_true h1, decide_eq_true h2, Bool.true_and, Bool.true_and]
theorem ext_getD {a b : List Int} (hl : a.length = b.length) (h : ∀ j, j < b.length → a.getD j 0 = b.getD j 0) : a = b := by
  apply List.ext_getElem hl
  intro j h1 h2
  have := h j h2
  simpa [List.getD, h1, h2] using this

theorem answered_as (a : Option Addr) (n cap : Nat) (rs : List O) (L : List Int) (m : Nat) (hL : srt (ansL rs) = L) (hm : L.length = m) (w : World) (hle : n ≤ 1001) (h : SlO w a n rs) :
    Calls Try.prog 30 #[.slice a n cap] w fun e w' => e = .returned (.slice (some ⟨w.heap.size, 0, none⟩) m n) ∧ m ≤ n ∧ IntsAt w' w.heap.size 0 L ∧ Later w w' ∧ w.heap.size < w'.heap.size := by
  subst hL; subst hm; exact answered_any a n cap rs w hle h

set_option maxHeartbeats 4000000 in
theorem figures_any (aa : Option Addr) (na ca : Nat) (xs : List Int) (sum f t l : Int) (a : Option Addr) (n cap : Nat) (rs : List O) (w : World) (hle : n ≤ 1001) (hx : SlI w aa na xs) (hna : na ≤ 1001) (h : SlO w a n rs) :
    Calls Try.prog 8 #[.slice aa na ca, .int .i64 sum, .int .i64 f, .int .i64 t, .int .i64 l, .slice a n cap] w fun e w' => e = .returned (.bool (figB xs sum f t l rs)) ∧ Later w w' := by
  have H : Hid (SlO w a n rs) := h
  have HX : Hid (SlI w aa na xs) := hx
  obtain ⟨L, hL⟩ : ∃ L, srt (ansL rs) = L := ⟨_, rfl⟩
  obtain ⟨m, hm⟩ : ∃ m, L.length = m := ⟨_, rfl⟩
  have HL : Hid (srt (ansL rs) = L) := hL
  have HM : Hid (L.length = m) := hm
  have HXL : Hid (xs.length = na) := hx.1
  have HFL : Hid (na ≠ m → figB xs sum f t l rs = false) := fun hne => fig_false_len (by rw [hL, hm, hx.1]; exact hne) sum f t l
  have HFA : Hid (∀ k, xs.getD k 0 ≠ L.getD k 0 → figB xs sum f t l rs = false) := fun k hne => fig_false_at k (by rw [hL]; exact hne) sum f t l
  have HFS : Hid (sum ≠ wsum L → figB xs sum f t l rs = false) := fun hne => fig_false_sum (by rw [hL]; exact hne) f t l
  have HFR : Hid (xs = L → sum = wsum L → figB xs sum f t l rs = (decide (f = nFail rs) && (decide (t = nTime rs) && decide (l = nLim rs)))) := fun h1 h2 => fig_rest (by rw [hL]; exact h1) (by rw [hL]; exact h2) f t l
  clear h hx hL hm
  by_cases hlen : na = m
  · have hd : ((na : Int) != (m : Int)) = false := by simp [hlen]
    generalize hR : figB xs sum f t l rs = R at *
    go_enter Try.func8, Try.ntmps8
    go_wp2_with (go_at_call 30; refine (answered_as a n cap rs L m HL.out HM.out _ hle H.out).mono ?_; rintro e w1 ⟨rfl, hml, hL, hl1, hz1⟩)
    have HI : Hid (IntsAt w1 w.heap.size 0 L) := hL
    have HW : Hid (Later w w1) := hl1
    have HX1 : Hid (SlI w1 aa na xs) := HX.out.keep hl1
    clear hL hl1
    go_loopw [14] (fun i W => ∃ (k q : Nat), k ≤ m ∧ i = .int .i64 k ∧ W = w1.drewN q ∧ (∀ j, j < k → xs.getD j 0 = L.getD j 0)) (fun i _ => m - (intOf i).toNat)
    case atStart => exact ⟨0, 0, Nat.zero_le _, rfl, rfl, fun j hj => absurd hj (Nat.not_lt_zero _)⟩
    case round =>
      obtain ⟨k, q, hk, rfl, rfl, heq⟩ := hrel
      have HE : Hid (∀ j, j < k → xs.getD j 0 = L.getD j 0) := heq
      clear heq
      by_cases hlt : k < m
      · obtain ⟨hxl, ⟨_, h0⟩ | ⟨b, off, rfl, hb, hc⟩⟩ := HX1.out
        · omega
        have c1 := hc k (by omega)
        have c2 := HI.out k (by rw [HM.out]; exact hlt)
        rw [Nat.zero_add] at c2
        have HNX : Hid (xs.getD k 0 = L.getD k 0 → ∀ j, j < k + 1 → xs.getD j 0 = L.getD j 0) := fun he j hj => by
          by_cases e : j = k
          · rw [e]; exact he
          · exact HE.out j (by omega)
        have HFK : Hid (xs.getD k 0 ≠ L.getD k 0 → R = false) := fun hne => HFA.out k hne
        clear hc hxl HE
        generalize xs.getD k 0 = x at c1 HNX HFK
        generalize L.getD k 0 = y at c2 HNX HFK
        have hki : (k : Int) < (m : Int) := by omega
        have hki2 : (k : Int) < (na : Int) := by omega
        by_cases hxy : x = y
        · have hdx : (x != y) = false := by simp [hxy]
          have HXY : Hid (x = y) := hxy
          clear hxy
          go_wp2
          go_quiet (fail)
          go_wp2
          go_roundw
          case rel => exact ⟨k + 1, _, by omega, by go_num, rfl, HNX.out HXY.out⟩
          case measure => simp [intOf]; omega
        · have hdx : (x != y) = true := by simpa using hxy
          have HXY : Hid (x ≠ y) := hxy
          clear hxy
          go_wp2
          go_quiet (fail)
          go_wp2
          go_ret
          exact ⟨ret_bool (HFK.out HXY.out).symm, (HW.out.drewN _).drewN _⟩
      · obtain rfl : k = m := by omega
        have HEQ : Hid (xs = L) := ext_getD (by rw [HXL.out, HM.out, hlen]) (by rw [HM.out]; exact HE.out)
        clear HE
        by_cases hsum : sum = wsum L
        · have hds : (sum != wsum L) = false := by simp [hsum]
          have HFE := HFR.out HEQ.out hsum
          have HFE' : Hid (R = (decide (f = nFail rs) && (decide (t = nTime rs) && decide (l = nLim rs)))) := HFE
          clear HFE hsum HFR HFS HFA HFL hR
          go_wp2_with (go_at_call 31; refine (sumOf_any w.heap.size 0 _ n L (w1.drewN q) HM.out (by omega) (HI.out.keep ((Later.refl w1).drewN q))).mono ?_; rintro e w' ⟨rfl, rfl⟩)
          go_loopw [15, 16, 17, 18] (fun x1 x2 x3 i W => ∃ (k2 : Nat), k2 ≤ n ∧ i = .int .i64 k2 ∧ x1 = .int .i64 (nFail (rs.take k2) : Nat) ∧ x2 = .int .i64 (nTime (rs.take k2) : Nat) ∧ x3 = .int .i64 (nLim (rs.take k2) : Nat) ∧ Later w W) (fun _ _ _ i _ => n - (intOf i).toNat)
          case atStart => exact ⟨0, Nat.zero_le _, rfl, rfl, rfl, rfl, HW.out.drewN _⟩
          case round =>
            obtain ⟨k2, hk2, rfl, rfl, rfl, rfl, hWR⟩ := hrel
            have HWR : Hid (Later w wr) := hWR
            have q1 : nFail (rs.take k2) ≤ k2 := Nat.le_trans List.countP_le_length (List.length_take_le _ _)
            have q2 : nTime (rs.take k2) ≤ k2 := Nat.le_trans List.countP_le_length (List.length_take_le _ _)
            have q3 : nLim (rs.take k2) ≤ k2 := Nat.le_trans List.countP_le_length (List.length_take_le _ _)
            by_cases hlt : k2 < n
            · obtain ⟨hn, h0 | ⟨b, off, rfl, hb, hu⟩⟩ := H.out
              · omega
              obtain ⟨c0, c1, c2⟩ := (hu.keep hWR) k2 hlt
              have HTK := take_snoc rs k2 (by omega)
              have HSF : Hid (nFail (rs.take (k2 + 1)) = nFail (rs.take k2) + (failB (rs.getD k2 o0).1).toNat) := by show _ = _; rw [HTK, nFail_snoc]
              have HST : Hid (nTime (rs.take (k2 + 1)) = nTime (rs.take k2) + ((rs.getD k2 o0).2.1).toNat) := by show _ = _; rw [HTK, nTime_snoc]
              have HSL : Hid (nLim (rs.take (k2 + 1)) = nLim (rs.take k2) + ((rs.getD k2 o0).1 == 429).toNat) := by show _ = _; rw [HTK, nLim_snoc]
              clear hWR hn hu HTK H
              generalize rs.getD k2 o0 = o at c0 c1 c2 HSF HST HSL
              obtain ⟨s, tt, ll⟩ := o
              generalize nFail (rs.take k2) = na2 at q1 HSF
              generalize nTime (rs.take k2) = nt2 at q2 HST
              generalize nLim (rs.take k2) = nl2 at q3 HSL
              have hki : (k2 : Int) < (n : Int) := by omega
              simp only at HSF HST HSL c0 c1 c2
              cases ef : failB s <;> cases et : tt <;> cases el : (s == 429)
              · have HF1 : Hid (nFail (rs.take (k2 + 1)) = na2 + 0) := by have := HSF.out; rw [ef] at this; exact this
                have HT1 : Hid (nTime (rs.take (k2 + 1)) = nt2 + 0) := by have := HST.out; rw [et] at this; exact this
                have HL1 : Hid (nLim (rs.take (k2 + 1)) = nl2 + 0) := by have := HSL.out; rw [el] at this; exact this
                have HEF : Hid (failB s = false) := ef
                subst et
                clear HSF HST HSL ef
                go_wp2_with (go_at_call 32; refine (failedByDoc_is s false ll false HEF.out _).mono ?_; rintro e w3 ⟨rfl, hl3⟩; have g0 := hl3.cell c0; have g1 := hl3.cell c1)
                go_roundw
                case rel => exact ⟨k2 + 1, by omega, by go_num, by rw [HF1.out]; go_num, by rw [HT1.out]; go_num, by rw [HL1.out]; go_num, HWR.out.trans hl3⟩
                case measure => simp [intOf]; omega
              · have HF1 : Hid (nFail (rs.take (k2 + 1)) = na2 + 0) := by have := HSF.out; rw [ef] at this; exact this
                have HT1 : Hid (nTime (rs.take (k2 + 1)) = nt2 + 0) := by have := HST.out; rw [et] at this; exact this
                have HL1 : Hid (nLim (rs.take (k2 + 1)) = nl2 + 1) := by have := HSL.out; rw [el] at this; exact this
                have HEF : Hid (failB s = false) := ef
                subst et
                clear HSF HST HSL ef
                go_wp2_with (go_at_call 32; refine (failedByDoc_is s false ll false HEF.out _).mono ?_; rintro e w3 ⟨rfl, hl3⟩; have g0 := hl3.cell c0; have g1 := hl3.cell c1)
                go_roundw
                case rel => exact ⟨k2 + 1, by omega, by go_num, by rw [HF1.out]; go_num, by rw [HT1.out]; go_num, by rw [HL1.out]; go_num, HWR.out.trans hl3⟩
                case measure => simp [intOf]; omega
              · have HF1 : Hid (nFail (rs.take (k2 + 1)) = na2 + 0) := by have := HSF.out; rw [ef] at this; exact this
                have HT1 : Hid (nTime (rs.take (k2 + 1)) = nt2 + 1) := by have := HST.out; rw [et] at this; exact this
                have HL1 : Hid (nLim (rs.take (k2 + 1)) = nl2 + 0) := by have := HSL.out; rw [el] at this; exact this
                have HEF : Hid (failB s = false) := ef
                subst et
                clear HSF HST HSL ef
                go_wp2_with (go_at_call 32; refine (failedByDoc_is s true ll false HEF.out _).mono ?_; rintro e w3 ⟨rfl, hl3⟩; have g0 := hl3.cell c0; have g1 := hl3.cell c1)
                go_roundw
                case rel => exact ⟨k2 + 1, by omega, by go_num, by rw [HF1.out]; go_num, by rw [HT1.out]; go_num, by rw [HL1.out]; go_num, HWR.out.trans hl3⟩
                case measure => simp [intOf]; omega
              · have HF1 : Hid (nFail (rs.take (k2 + 1)) = na2 + 0) := by have := HSF.out; rw [ef] at this; exact this
                have HT1 : Hid (nTime (rs.take (k2 + 1)) = nt2 + 1) := by have := HST.out; rw [et] at this; exact this
                have HL1 : Hid (nLim (rs.take (k2 + 1)) = nl2 + 1) := by have := HSL.out; rw [el] at this; exact this
                have HEF : Hid (failB s = false) := ef
                subst et
                clear HSF HST HSL ef
                go_wp2_with (go_at_call 32; refine (failedByDoc_is s true ll false HEF.out _).mono ?_; rintro e w3 ⟨rfl, hl3⟩; have g0 := hl3.cell c0; have g1 := hl3.cell c1)
                go_roundw
                case rel => exact ⟨k2 + 1, by omega, by go_num, by rw [HF1.out]; go_num, by rw [HT1.out]; go_num, by rw [HL1.out]; go_num, HWR.out.trans hl3⟩
                case measure => simp [intOf]; omega
              · have HF1 : Hid (nFail (rs.take (k2 + 1)) = na2 + 1) := by have := HSF.out; rw [ef] at this; exact this
                have HT1 : Hid (nTime (rs.take (k2 + 1)) = nt2 + 0) := by have := HST.out; rw [et] at this; exact this
                have HL1 : Hid (nLim (rs.take (k2 + 1)) = nl2 + 0) := by have := HSL.out; rw [el] at this; exact this
                have HEF : Hid (failB s = true) := ef
                subst et
                clear HSF HST HSL ef
                go_wp2_with (go_at_call 32; refine (failedByDoc_is s false ll true HEF.out _).mono ?_; rintro e w3 ⟨rfl, hl3⟩; have g0 := hl3.cell c0; have g1 := hl3.cell c1)
                go_roundw
                case rel => exact ⟨k2 + 1, by omega, by go_num, by rw [HF1.out]; go_num, by rw [HT1.out]; go_num, by rw [HL1.out]; go_num, HWR.out.trans hl3⟩
                case measure => simp [intOf]; omega
              · have HF1 : Hid (nFail (rs.take (k2 + 1)) = na2 + 1) := by have := HSF.out; rw [ef] at this; exact this
                have HT1 : Hid (nTime (rs.take (k2 + 1)) = nt2 + 0) := by have := HST.out; rw [et] at this; exact this
                have HL1 : Hid (nLim (rs.take (k2 + 1)) = nl2 + 1) := by have := HSL.out; rw [el] at this; exact this
                have HEF : Hid (failB s = true) := ef
                subst et
                clear HSF HST HSL ef
                go_wp2_with (go_at_call 32; refine (failedByDoc_is s false ll true HEF.out _).mono ?_; rintro e w3 ⟨rfl, hl3⟩; have g0 := hl3.cell c0; have g1 := hl3.cell c1)
                go_roundw
                case rel => exact ⟨k2 + 1, by omega, by go_num, by rw [HF1.out]; go_num, by rw [HT1.out]; go_num, by rw [HL1.out]; go_num, HWR.out.trans hl3⟩
                case measure => simp [intOf]; omega
              · have HF1 : Hid (nFail (rs.take (k2 + 1)) = na2 + 1) := by have := HSF.out; rw [ef] at this; exact this
                have HT1 : Hid (nTime (rs.take (k2 + 1)) = nt2 + 1) := by have := HST.out; rw [et] at this; exact this
                have HL1 : Hid (nLim (rs.take (k2 + 1)) = nl2 + 0) := by have := HSL.out; rw [el] at this; exact this
                have HEF : Hid (failB s = true) := ef
                subst et
                clear HSF HST HSL ef
                go_wp2_with (go_at_call 32; refine (failedByDoc_is s true ll true HEF.out _).mono ?_; rintro e w3 ⟨rfl, hl3⟩; have g0 := hl3.cell c0; have g1 := hl3.cell c1)
                go_roundw
                case rel => exact ⟨k2 + 1, by omega, by go_num, by rw [HF1.out]; go_num, by rw [HT1.out]; go_num, by rw [HL1.out]; go_num, HWR.out.trans hl3⟩
                case measure => simp [intOf]; omega
              · have HF1 : Hid (nFail (rs.take (k2 + 1)) = na2 + 1) := by have := HSF.out; rw [ef] at this; exact this
                have HT1 : Hid (nTime (rs.take (k2 + 1)) = nt2 + 1) := by have := HST.out; rw [et] at this; exact this
                have HL1 : Hid (nLim (rs.take (k2 + 1)) = nl2 + 1) := by have := HSL.out; rw [el] at this; exact this
                have HEF : Hid (failB s = true) := ef
                subst et
                clear HSF HST HSL ef
                go_wp2_with (go_at_call 32; refine (failedByDoc_is s true ll true HEF.out _).mono ?_; rintro e w3 ⟨rfl, hl3⟩; have g0 := hl3.cell c0; have g1 := hl3.cell c1)
                go_roundw
                case rel => exact ⟨k2 + 1, by omega, by go_num, by rw [HF1.out]; go_num, by rw [HT1.out]; go_num, by rw [HL1.out]; go_num, HWR.out.trans hl3⟩
                case measure => simp [intOf]; omega
            · obtain rfl : k2 = n := by omega
              have HTL : Hid (rs.take k2 = rs) := List.take_of_length_le (by have := H.out.1; omega)
              rw [HTL.out] at q1 q2 q3 ⊢
              generalize nFail rs = na2 at q1 HFE' ⊢
              generalize nTime rs = nt2 at q2 HFE' ⊢
              generalize nLim rs = nl2 at q3 HFE' ⊢
              cases e1 : (f == (na2 : Int))
              · have HQ : Hid (R = false) := by show R = false; rw [HFE'.out]; simp at e1; simp [e1]
                go_wp2
                go_ret
                exact ⟨ret_bool HQ.out.symm, hWR⟩
              · cases e2 : (t == (nt2 : Int))
                · have HQ : Hid (R = false) := by show R = false; rw [HFE'.out]; simp at e2; simp [e2]
                  go_wp2
                  go_ret
                  exact ⟨ret_bool HQ.out.symm, hWR⟩
                · have HQ : Hid (R = (l == (nl2 : Int))) := by
                    show R = _
                    rw [HFE'.out]
                    simp at e1 e2
                    simp [e1, e2]
                    rfl
                  go_wp2
                  go_ret
                  exact ⟨ret_bool HQ.out.symm, hWR⟩
        · have hds : (sum != wsum L) = true := by simpa using hsum
          have HFE : Hid (R = false) := HFS.out hsum
          clear hsum HFR HFS HFA HFL hR
          go_wp2_with (go_at_call 31; refine (sumOf_any w.heap.size 0 _ n L (w1.drewN q) HM.out (by omega) (HI.out.keep ((Later.refl w1).drewN q))).mono ?_; rintro e w' ⟨rfl, rfl⟩)
          go_ret
          exact ⟨ret_bool HFE.out.symm, HW.out.drewN _⟩
  · have hd : ((na : Int) != (m : Int)) = true := by simp; omega
    go_enter Try.func8, Try.ntmps8
    go_wp2_with (go_at_call 30; refine (answered_as a n cap rs L m HL.out HM.out _ hle H.out).mono ?_; rintro e w1 ⟨rfl, hml, hL, hl1, hz1⟩)
    go_ret
    exact ⟨ret_bool (HFL.out hlen).symm, hl1⟩
end Go.Proofs.Qxb6612353a
