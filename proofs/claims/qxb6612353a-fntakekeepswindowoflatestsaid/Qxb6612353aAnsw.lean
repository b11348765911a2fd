/-
  'answeredLatencies'.
-/
import Derived.Test.Qxb6612353aLats
import Derived.Test.Qxb6612353aPlain2
namespace Go.Proofs.Qxb6612353a
open Go.RowKit
set_option linter.unusedVariables false

/-- A slice of outcomes: empty, or it leads to rs. -/
def SlO (w : World) (a : Option Addr) (n : Nat) (rs : List O) : Prop := rs.length = n ∧ (n = 0 ∨ ∃ b off, a = some ⟨b, off, none⟩ ∧ b < w.heap.size ∧ OutsUp w b off rs n)
theorem SlO.keep {w w' : World} {a : Option Addr} {n : Nat} {rs : List O} (h : SlO w a n rs) (hl : Later w w') : SlO w' a n rs := by
  obtain ⟨h0, h | ⟨b, off, rfl, hb, hc⟩⟩ := h
  · exact ⟨h0, .inl h⟩
  · exact ⟨h0, .inr ⟨b, off, rfl, Nat.lt_of_lt_of_le hb hl.size, hc.keep hl⟩⟩

theorem cells1 {w : World} {v : Int} {e : Nat} : ∀ (j : Nat) (u : Value), ([.int .i64 v] : List Value)[j]? = some u → (w.alloc (.cells #[.int .i64 v] e)).cell? ((⟨w.heap.size, 0, none⟩ : Addr).add j) = some u := by
  intro j u hj
  match j, hj with
  | 0, hj => simp at hj; subst hj; simp [Addr.add]

theorem own_cell {w : World} {B g e n cap : Nat} {xs : List Int} (h : w.ownsRow B e 1 (.slice (some ⟨g, 0, none⟩) n cap) n (xs.map (Value.int .i64))) (j : Nat) (hj : j < n) : w.cell? ⟨g, j, none⟩ = some (.int .i64 (xs.getD j 0)) := by
  have hl : xs.length = n := by have := h.1; simpa using this
  rw [h.cellAt j (by omega)]
  simp [List.getD, show j < xs.length by omega]
theorem own_store {w : World} {B g e n cap : Nat} {xs : List Int} (h : w.ownsRow B e 1 (.slice (some ⟨g, 0, none⟩) n cap) n (xs.map (Value.int .i64))) (j : Nat) (x : Int) :
    (w.setCell ⟨g, j, none⟩ (.int .i64 x)).ownsRow B e 1 (.slice (some ⟨g, 0, none⟩) n cap) n ((xs.set j x).map (Value.int .i64)) := by
  have := (h.stored j (.int .i64 x)).1
  rwa [← List.map_set] at this

set_option maxHeartbeats 2000000 in
theorem answered_any (a : Option Addr) (n cap : Nat) (rs : List O) (w : World) (hle : n ≤ 1001) (h : SlO w a n rs) :
    Calls Try.prog 30 #[.slice a n cap] w fun e w' => e = .returned (.slice (some ⟨w.heap.size, 0, none⟩) (srt (ansL rs)).length n) ∧ (srt (ansL rs)).length ≤ n ∧ IntsAt w' w.heap.size 0 (srt (ansL rs)) ∧ Later w w' ∧ w.heap.size < w'.heap.size := by
  obtain ⟨i0, hi, hz0, hz1, hz2⟩ := info_parts Try.info2
  have H : Hid (SlO w a n rs) := h
  clear h
  go_enter Try.func30, Try.ntmps30
  go_wp2_with (at_make; refine wpList_make_own _ rfl _ _ 23 rfl w.heap.size 2 i0 _ 1 Try.underlying23 hi hz0 hz1 _ _ _ n rfl rfl rfl ?b2 ?b3 (Nat.le_refl _) ?_)
  case b2 => rw [hz2]; omega
  case b3 => unfold maxLen; omega
  intro w0 hown0 hgrow0
  have B0 : Hid (Below w.heap.size w w0) := (Below.refl _ _).grown hgrow0 (Nat.le_refl _) (fun k h => by cases h)
  have O0 : Hid (w0.ownsRow w.heap.size 2 1 (.slice (some ⟨w.heap.size, 0, none⟩) 0 n) 0 []) := hown0
  clear hown0 hgrow0
  go_wp2
  go_loopw [3, 4] (fun v i wr => ∃ (k m : Nat) (ys : List Int), k ≤ n ∧ i = .int .i64 k ∧ Srt ys ∧ ys.Perm (ansL (rs.take k)) ∧ ys.length = m ∧ m ≤ k ∧ v = .slice (some ⟨w.heap.size, 0, none⟩) m n ∧ wr.ownsRow w.heap.size 2 1 (.slice (some ⟨w.heap.size, 0, none⟩) m n) m (ys.map (Value.int .i64)) ∧ Below w.heap.size w wr) (fun _ i _ => n - (intOf i).toNat)
  case atStart => exact ⟨0, 0, [], Nat.zero_le _, rfl, List.Pairwise.nil, by simp [ansL], rfl, Nat.le_refl _, rfl, O0.out, B0.out⟩
  case round =>
    clear O0 B0
    obtain ⟨k, m, ys, hk, rfl, hsr, hpm, hm, hmk, rfl, hown, hB⟩ := hrel
    by_cases hlt : k < n
    · obtain ⟨hn, h0 | ⟨b, off, rfl, hb, hu⟩⟩ := H.out
      · omega
      obtain ⟨c0, c1, c2⟩ := hu k hlt
      replace c0 := (hB.cell (by exact hb)).trans c0
      replace c2 := (hB.cell (by exact hb)).trans c2
      have hki : (k : Int) < (n : Int) := by omega
      have HT : Hid (rs.take (k + 1) = rs.take k ++ [rs.getD k o0]) := take_snoc rs k (by omega)
      have HB : Hid (Below w.heap.size w wr) := hB
      have HZ : Hid (w.heap.size ≤ wr.heap.size) := hB.size
      have HM : Hid (ys.length = m) := hm
      have HSR : Hid (Srt ys) := hsr
      have HPM : Hid (ys.Perm (ansL (rs.take k))) := hpm
      clear c1 hu hn hB hm hsr hpm H
      generalize rs.getD k o0 = o at c0 c2 HT
      obtain ⟨s, t, l⟩ := o
      by_cases hs0 : s = 0
      · have hd : (s == 0) = true := by simpa using hs0
        have HP2 : Hid (ys.Perm (ansL (rs.take (k + 1)))) := by show ys.Perm _; rw [HT.out, ansL_snoc0 _ _ hs0]; exact HPM.out
        have HO : Hid (wr.ownsRow w.heap.size 2 1 (.slice (some ⟨w.heap.size, 0, none⟩) m n) m (ys.map (Value.int .i64))) := hown
        clear hs0 hown
        go_wp2
        go_roundw
        case rel => exact ⟨k + 1, m, ys, by omega, by go_num, HSR.out, HP2.out, HM.out, by omega, rfl, HO.out, HB.out⟩
        case measure => simp [intOf]; omega
      · have hd : (s == 0) = false := by simpa using hs0
        have HAN : Hid (ansL (rs.take (k + 1)) = ansL (rs.take k) ++ [l]) := by show _ = _; rw [HT.out, ansL_snoc1 _ _ hs0]
        clear hs0 HT
        go_wp2_with (at_builtin; refine wpList_append_fits _ rfl (.tmp 27) (.tmp 29) 23 rfl w.heap.size 2 i0 1 Try.underlying23 hi hz1 w.heap.size m n _ rfl (hown.alloc _) ⟨wr.heap.size, 0, none⟩ 1 1 [.int .i64 l] rfl rfl cells1 (by intro u hu; simp at hu; subst hu; rfl) (by omega) ?_; intro w1 hown1 hgrow1)
        have HO1 : Hid (w1.ownsRow w.heap.size 2 1 (.slice (some ⟨w.heap.size, 0, none⟩) (m + 1) n) (m + 1) ((insAt ys m l).map (Value.int .i64))) := by
          have e : insAt ys m l = ys ++ [l] := by rw [← HM.out]; exact insAt_end ys l
          rw [e, List.map_append]; exact hown1
        have HB1 : Hid (Below w.heap.size w w1) := (HB.out.alloc HZ.out _).grown hgrow1 (by have := HZ.out; simp; omega) (fun k hk => by cases hk; exact Nat.le_refl _)
        clear hown1 hgrow1 hown
        go_wp2
        go_loopw [6] (fun jv wr2 => ∃ (j : Nat) (x : Int), j ≤ m ∧ jv = .int .i64 j ∧ (∀ t, j ≤ t → t < m → l ≤ ys.getD t 0) ∧ wr2.ownsRow w.heap.size 2 1 (.slice (some ⟨w.heap.size, 0, none⟩) (m + 1) n) (m + 1) ((insAt ys j x).map (Value.int .i64)) ∧ Below w.heap.size w wr2) (fun jv _ => (intOf jv).toNat)
        case atStart => exact ⟨m, l, Nat.le_refl _, by go_num, fun t h1 h2 => by omega, HO1.out, HB1.out⟩
        case round =>
          clear HO1 HB1 HB HZ
          obtain ⟨j, x, hjm, rfl, hbig, hown2, hB2⟩ := hrel
          have hfz := hown2.frozenAt j
          have hcj := own_cell hown2 j (by omega)
          have HO2 : Hid (wr.ownsRow w.heap.size 2 1 (.slice (some ⟨w.heap.size, 0, none⟩) (m + 1) n) (m + 1) ((insAt ys j x).map (Value.int .i64))) := hown2
          have HBIG : Hid (∀ t, j ≤ t → t < m → l ≤ ys.getD t 0) := hbig
          have HB2 : Hid (Below w.heap.size w wr) := hB2
          have FIN : Hid ((∀ t, t < j → ys.getD t 0 ≤ l) → ∃ zs : List Int, Srt zs ∧ zs.Perm (ansL (rs.take (k + 1))) ∧ zs.length = m + 1 ∧ (wr.setCell ⟨w.heap.size, j, none⟩ (.int .i64 l)).ownsRow w.heap.size 2 1 (.slice (some ⟨w.heap.size, 0, none⟩) (m + 1) n) (m + 1) (zs.map (Value.int .i64)) ∧ Below w.heap.size w (wr.setCell ⟨w.heap.size, j, none⟩ (.int .i64 l))) := by
            intro hlow
            refine ⟨insAt ys j l, insAt_srt ys j l HSR.out (by rw [HM.out]; exact hjm) hlow (by rw [HM.out]; exact hbig), ?_, by rw [insAt_len, HM.out], ?_, hB2.setCell (Nat.le_refl _) _⟩
            · rw [HAN.out]; exact perm_snoc (insAt_perm ys j l) HPM.out
            · have := own_store hown2 j l
              rwa [insAt_set _ _ _ _ (by rw [HM.out]; exact hjm)] at this
          generalize (insAt ys j x).getD j 0 = vj at hcj
          by_cases hj0 : j = 0
          · subst hj0
            clear hown2 hB2 hbig
            go_wp2
            go_roundw
            case rel =>
              obtain ⟨zs, z1, z2, z3, z4, z5⟩ := FIN.out (fun t ht => absurd ht (Nat.not_lt_zero _))
              exact ⟨k + 1, m + 1, zs, by omega, by go_num, z1, z2, z3, by omega, rfl, z4, z5⟩
            case measure => simp [intOf]; omega
          · obtain ⟨i, rfl⟩ : ∃ i, j = i + 1 := ⟨j - 1, by omega⟩
            have hci := own_cell hown2 i (by omega)
            rw [insAt_low ys (i + 1) i x (by omega) (by rw [HM.out]; exact hjm)] at hci
            have HDN : Hid (insAt ys (i + 1) (ys.getD i 0) = insAt ys i (ys.getD i 0)) := insAt_down ys i (by rw [HM.out]; omega)
            have HLOW : Hid (ys.getD i 0 ≤ l → ∀ t, t < i + 1 → ys.getD t 0 ≤ l) := fun hle t ht => Int.le_trans (srt_at ys HSR.out t i (by omega) (by rw [HM.out]; omega)) hle
            have NXT : Hid (l ≤ ys.getD i 0 → ∀ t, i ≤ t → t < m → l ≤ ys.getD t 0) := fun hle t h1 h2 => by
              by_cases e : t = i
              · rw [e]; exact hle
              · exact hbig t (by omega) h2
            have OWN : Hid ((wr.setCell ⟨w.heap.size, i + 1, none⟩ (.int .i64 (ys.getD i 0))).ownsRow w.heap.size 2 1 (.slice (some ⟨w.heap.size, 0, none⟩) (m + 1) n) (m + 1) ((insAt ys i (ys.getD i 0)).map (Value.int .i64))) := by
              have := own_store hown2 (i + 1) (ys.getD i 0)
              rwa [insAt_set _ _ _ _ (by rw [HM.out]; exact hjm), HDN.out] at this
            clear hown2 hB2 hbig hj0 HDN
            generalize ys.getD i 0 = y at hci HLOW NXT OWN
            by_cases hly : l < y
            · go_wp2
              go_roundw
              case rel => exact ⟨i, y, by omega, by go_num, NXT.out (by omega), OWN.out, HB2.out.setCell (Nat.le_refl _) _⟩
              case measure => simp [intOf]
            · go_wp2
              go_roundw
              case rel =>
                obtain ⟨zs, z1, z2, z3, z4, z5⟩ := FIN.out (HLOW.out (by omega))
                exact ⟨k + 1, m + 1, zs, by omega, by go_num, z1, z2, z3, by omega, rfl, z4, z5⟩
              case measure => simp [intOf]; omega
    · obtain rfl : k = n := by omega
      go_wp2
      go_ret
      have e : ys = srt (ansL rs) := srt_eq hsr (by rw [List.take_of_length_le (by have := H.out.1; omega)] at hpm; exact hpm)
      subst e
      subst hm
      exact ⟨rfl, hmk, fun j hj => by rw [Nat.zero_add]; exact own_cell hown j hj, hB, (hown.lt _ rfl).2⟩
end Go.Proofs.Qxb6612353a
