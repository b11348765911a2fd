/-
  'rotationIs' where it holds; 'toOutcomes' of any row; 'ZZnewWindow' with a row that may be written.
-/
import Derived.Test.Qxb6612353aDel
import Derived.Test.Qxb6612353aWin
namespace Go.Proofs.Qxb6612353a
open Go.RowKit
set_option linter.unusedVariables false

set_option maxHeartbeats 1000000 in
theorem rotation_true (b off n cap b2 off2 cap2 q : Nat) (got ch : List O) (w : World) (hle : n ≤ 1001) (hn0 : 0 < n) (hq : q ≤ 1000) (h1 : OutsUp w b off got n) (h2 : OutsUp w b2 off2 ch n) (hr : ∀ j, j < n → got.getD ((q + j) % n) o0 = ch.getD j o0) :
    Calls Try.prog 15 #[.slice (some ⟨b, off, none⟩) n cap, .int .i64 q, .slice (some ⟨b2, off2, none⟩) n cap2] w fun e w' => e = .returned (.bool true) ∧ ∃ q', w' = w.drewN q' := by
  have H1 : Hid (OutsUp w b off got n) := h1
  have H2 : Hid (OutsUp w b2 off2 ch n) := h2
  have HR : Hid (∀ j, j < n → got.getD ((q + j) % n) o0 = ch.getD j o0) := hr
  clear h1 h2 hr
  have hnz : ¬ ((n : Int) = 0) := by omega
  have hnz' : ((n : Int) == 0) = false := by simpa using hnz
  go_enter Try.func15, Try.ntmps15
  go_wp2
  go_loopw [8] (fun i W => ∃ (k q' : Nat), k ≤ n ∧ i = .int .i64 k ∧ W = w.drewN q') (fun i _ => n - (intOf i).toNat)
  case atStart => exact ⟨0, 0, Nat.zero_le _, rfl, rfl⟩
  case round =>
    obtain ⟨k, q', hk, rfl, rfl⟩ := hrel
    by_cases hlt : k < n
    · obtain ⟨i, hi⟩ : ∃ i, i = (q + k) % n := ⟨_, rfl⟩
      have hin : i < n := by rw [hi]; exact Nat.mod_lt _ hn0
      obtain ⟨c0, c1, c2⟩ := H1.out i hin
      obtain ⟨d0, d1, d2⟩ := H2.out k hlt
      have he := HR.out k hlt
      rw [← hi] at he
      rw [he] at c0 c1 c2
      generalize ch.getD k o0 = o at c0 c1 c2 d0 d1 d2
      obtain ⟨s, t, l⟩ := o
      have hki : (k : Int) < (n : Int) := by omega
      have hii : (i : Int) < (n : Int) := by omega
      have hem : ((q : Int) + (k : Int)) % (n : Int) = (i : Int) := by rw [hi]; simp
      have htm : ((q : Int) + (k : Int)).tmod (n : Int) = (i : Int) := by rw [Int.tmod_eq_emod_of_nonneg (by omega)]; exact hem
      clear hi he
      go_wp2
      go_region
      go_wp2
      go_roundw
      case rel => exact ⟨k + 1, q' + 1, by omega, by go_num, rfl⟩
      case measure => simp [intOf]; omega
    · go_wp2
      go_ret
      exact ⟨rfl, _, rfl⟩

set_option maxHeartbeats 1000000 in
theorem toOutcomes_nil (w : World) : Calls Try.prog 10 #[.slice none 0 0] w fun e w' => e = .returned (.slice none 0 0) ∧ w = w' := by
  have hne := fun wx => Lib.run_eql_slice_nil (P := Try.prog) wx 22 25 none 0 0 0 0 Try.underlying22
  go_enter Try.func10, Try.ntmps10
  go_wp2
  go_ret
  exact ⟨rfl, rfl⟩
set_option maxHeartbeats 1000000 in
theorem toOutcomes_empty (x : Addr) (cap : Nat) (w : World) : Calls Try.prog 10 #[.slice (some x) 0 cap] w fun e w' => e = .returned (.slice (some ⟨w.heap.size, 0, none⟩) 0 0) ∧ Later w w' ∧ w.heap.size < w'.heap.size := by
  obtain ⟨i0, hi, hz0, hz1, hz2⟩ := info_parts Try.info36
  have hne := fun wx => Lib.run_eql_slice_nil (P := Try.prog) wx 22 25 (some x) 0 cap 0 0 Try.underlying22
  go_enter Try.func10, Try.ntmps10
  go_wp2_with (at_make; refine wpList_make_full _ rfl _ _ 31 rfl w.heap.size 36 i0 _ 3 Try.underlying31 hi hz0 hz1 _ _ _ _ 0 rfl rfl rfl rfl ?b2 ?b3 (Nat.le_refl _) ?_)
  case b2 => rw [hz2]; omega
  case b3 => unfold maxLen; omega
  intro w0 hown0 hgrow0
  have B0 : Hid (Below w.heap.size w w0) := (Below.refl _ _).grown hgrow0 (Nat.le_refl _) (fun k h => by cases h)
  have Z0 : Hid (w.heap.size < w0.heap.size) := (hown0.lt _ rfl).2
  clear hown0 hgrow0 hne
  go_wp2
  refine wp_loop_rounds 1 ?_
  rw [rounds_succ]
  go_wp2
  go_ret
  exact ⟨rfl, B0.out, Z0.out⟩
theorem toOutcomes_all (a : Option Addr) (n cap : Nat) (rs : List O) (w : World) (hle : n ≤ 1000) (h : SlO w a n rs) (hz : a = none → n = 0 ∧ cap = 0) :
    Calls Try.prog 10 #[.slice a n cap] w fun e w' => ∃ ra, e = .returned (.slice ra n n) ∧ Later w w' ∧ ((ra = none ∧ n = 0) ∨ ∃ R, ra = some ⟨R, 0, none⟩ ∧ w.heap.size ≤ R ∧ R < w'.heap.size ∧ OutsUp w' R 0 rs n ∧ Free w' R (n * 3)) := by
  cases a with
  | none =>
    obtain ⟨rfl, rfl⟩ := hz rfl
    refine (toOutcomes_nil w).mono ?_
    rintro e w' ⟨rfl, rfl⟩
    exact ⟨none, rfl, Later.refl _, .inl ⟨rfl, rfl⟩⟩
  | some x =>
    obtain ⟨_, rfl | ⟨b, off, hx, hb, hO⟩⟩ := h
    · refine (toOutcomes_empty x cap w).mono ?_
      rintro e w' ⟨rfl, hl, hs⟩
      exact ⟨_, rfl, hl, .inr ⟨w.heap.size, rfl, Nat.le_refl _, hs, fun j hj => absurd hj (Nat.not_lt_zero _), fun j hj => absurd hj (by omega)⟩⟩
    · cases hx
      refine (toOutcomes_any b off n cap rs w hle hb hO).mono ?_
      rintro e w' ⟨rfl, h1, h2, h3, h4⟩
      exact ⟨_, rfl, h3, .inr ⟨w.heap.size, rfl, Nat.le_refl _, h4, h1, h2⟩⟩

theorem fill_endW {w : World} {B e n : Nat} {ys xs : List Int} (hys : ys.length = n) (hx : xs.length = n) (hf : ∀ j, j < n → ys.getD j 0 = xs.getD j 0) (hown : w.ownsRow B e 1 (.slice (some ⟨B, 0, none⟩) n n) n (ys.map (Value.int .i64))) : IntsW w B 0 xs := by
  intro j hj
  rw [Nat.zero_add, own_cell hown j (by omega), hf j (by omega)]
  exact ⟨rfl, hown.frozenAt j⟩

set_option maxHeartbeats 2000000 in
theorem newWindow_own (cnt : Int) (ra : Option Addr) (rn rc : Nat) (nxt : Int) (aa : Option Addr) (na ca : Nat) (xs : List Int) (sum f t l : Int) (w : World) (hle : na ≤ 1000) (h : SlI w aa na xs) (hca : aa = none → ca = 0) :
    Calls Try.prog 9 #[.int .i64 cnt, .slice ra rn rc, .int .i64 nxt, .slice aa na ca, .int .i64 sum, .int .i64 f, .int .i64 t, .int .i64 l] w fun e w' =>
      ∃ B a', e = .returned (.pointer (some ⟨B, 0, none⟩)) ∧ w.heap.size ≤ B ∧ Win w' B cnt (.slice ra rn rc) nxt (.slice a' na na) sum f t l ∧ xs.length = na ∧ ((a' = none ∧ na = 0) ∨ ∃ A, a' = some ⟨A, 0, none⟩ ∧ w.heap.size ≤ A ∧ A < w'.heap.size ∧ A ≠ B ∧ IntsW w' A 0 xs) ∧ Later w w' := by
  obtain ⟨hl, ⟨rfl, rfl⟩ | ⟨b, off, rfl, hb, hc⟩⟩ := h
  · obtain rfl := hca rfl
    have HL : Hid (xs.length = 0) := hl
    clear hl hca
    have hne := fun wx => run_neq_slice_nil_any (P := Try.prog) wx 23 2 none 0 0 0 0 Try.underlying23
    go_enter Try.func9, Try.ntmps9
    go_wp2
    go_ret
    exact ⟨w.heap.size, none, rfl, Nat.le_refl _, win_new, HL.out, .inl (by simp), (Later.refl w).alloc _⟩
  · have hne := fun wx => run_neq_slice_nil_any (P := Try.prog) wx 23 2 (some ⟨b, off, none⟩) na ca 0 0 Try.underlying23
    obtain ⟨i0, hi, hz0, hz1, hz2⟩ := info_parts Try.info34
    have HC : Hid (IntsAt w b off xs) := hc
    have HL : Hid (xs.length = na) := hl
    clear hl hca hc
    go_enter Try.func9, Try.ntmps9
    go_wp2_with (at_make; refine wpList_make_full _ rfl _ _ 52 rfl w.heap.size 34 i0 _ 1 Try.underlying52 hi hz0 hz1 _ _ _ _ na rfl rfl rfl rfl ?b2 ?b3 (Nat.le_refl _) ?_)
    case b2 => rw [hz2]; omega
    case b3 => unfold maxLen; omega
    intro w0 hown0 hgrow0
    have O0 : Hid (w0.ownsRow w.heap.size 34 1 (.slice (some ⟨w.heap.size, 0, none⟩) na na) na ((List.replicate na (0 : Int)).map (Value.int .i64))) := by
      show w0.ownsRow _ _ _ _ _ _
      rw [toList_madeCells_one] at hown0
      simpa using hown0
    have B0 : Hid (Below w.heap.size w w0) := (Below.refl _ _).grown hgrow0 (Nat.le_refl _) (fun k h => by cases h)
    clear hown0 hgrow0 hne
    go_wp2
    go_loopw [26] (fun i wr => ∃ (k : Nat) (ys : List Int), k ≤ na ∧ i = .int .i64 k ∧ ys.length = na ∧ (∀ j, j < k → ys.getD j 0 = xs.getD j 0) ∧ wr.ownsRow w.heap.size 34 1 (.slice (some ⟨w.heap.size, 0, none⟩) na na) na (ys.map (Value.int .i64)) ∧ Below w.heap.size w wr) (fun i _ => na - (intOf i).toNat)
    case atStart => exact ⟨0, List.replicate na 0, Nat.zero_le _, rfl, by simp, fun j hj => absurd hj (Nat.not_lt_zero _), O0.out, B0.out⟩
    case round =>
      clear O0 B0
      obtain ⟨k, ys, hk, rfl, hys, hf, hown, hB⟩ := hrel
      by_cases hlt : k < na
      · have c1 := (hB.cell (by exact hb)).trans (HC.out k (by rw [HL.out]; exact hlt))
        have c2 := own_cell hown k hlt
        have f2 := hown.frozenAt k
        have HST := fill_step hys hlt hf hown (xs.getD k 0) rfl
        have HB : Hid (Below w.heap.size w wr) := hB
        have HS : Hid (∃ zs : List Int, zs.length = na ∧ (∀ j, j < k + 1 → zs.getD j 0 = xs.getD j 0) ∧ (wr.setCell ⟨w.heap.size, k, none⟩ (.int .i64 (xs.getD k 0))).ownsRow w.heap.size 34 1 (.slice (some ⟨w.heap.size, 0, none⟩) na na) na (zs.map (Value.int .i64))) := HST
        clear HST hf hown hB hys
        generalize xs.getD k 0 = x at c1 HS
        generalize ys.getD k 0 = y at c2
        go_wp2
        go_roundw
        case rel =>
          obtain ⟨zs, z1, z2, z3⟩ := HS.out
          exact ⟨k + 1, zs, by omega, by go_num, z1, z2, z3, HB.out.setCell (Nat.le_refl _) _⟩
        case measure => simp [intOf]; omega
      · obtain rfl : k = na := by omega
        have HI : Hid (IntsW wr w.heap.size 0 xs) := fill_endW hys HL.out hf hown
        have HZ : Hid (w.heap.size < wr.heap.size) := (hown.lt _ rfl).2
        have HB : Hid (Below w.heap.size w wr) := hB
        have HLL : Hid (xs.length = k) := HL.out
        clear hf hown hB hys
        go_wp2
        go_ret
        have hl2 : Later wr (wr.alloc (.cells #[.pointer none, .int .i32 0, .int .u32 0, .int .i64 cnt, .slice ra rn rc, .int .i64 nxt, .slice (some ⟨w.heap.size, 0, none⟩) k k, .int .i64 sum, .int .i64 f, .int .i64 t, .int .i64 l] 67)) := (Later.refl wr).alloc _
        exact ⟨wr.heap.size, some ⟨w.heap.size, 0, none⟩, rfl, HB.out.size, win_new, HLL.out, .inr ⟨w.heap.size, rfl, Nat.le_refl _, Nat.lt_of_lt_of_le HZ.out hl2.size, Nat.ne_of_lt HZ.out, HI.out.keep hl2⟩, HB.out.alloc HB.out.size _⟩

end Go.Proofs.Qxb6612353a
