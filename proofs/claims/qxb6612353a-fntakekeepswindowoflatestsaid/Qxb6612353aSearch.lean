/-
  'slices.BinarySearch' at []time.Duration, over a sorted row.
-/
import Derived.Test.Qxb6612353aFig
import Derived.Lib.SlicesSearch
namespace Go.Proofs.Qxb6612353a
open Go.RowKit
set_option linter.unusedVariables false

/-- how many are less -/
def lowB (xs : List Int) (x : Int) : Nat := xs.countP (· < x)
def foundB (xs : List Int) (x : Int) : Bool := decide (lowB xs x < xs.length) && (xs.getD (lowB xs x) 0 == x)
theorem lowB_is (xs : List Int) (x : Int) (i : Nat) (hi : i ≤ xs.length) (h1 : ∀ j, j < i → xs.getD j 0 < x) (h2 : ∀ j, i ≤ j → j < xs.length → x ≤ xs.getD j 0) : lowB xs x = i :=
  Lib.countP_split (fun y => decide (y < x)) xs i hi (fun j hj => by simpa using h1 j hj) (fun j hj hl => by have := h2 j hj hl; simpa using this)

theorem ret_two {a b : Int} {c d : Bool} (h : a = b) (k : c = d) : Ending.returned (.tuple #[.int .i64 a, .bool c]) = .returned (.tuple #[.int .i64 b, .bool d]) := by rw [h, k]

set_option maxHeartbeats 1000000 in
theorem search_some (b off n cap : Nat) (xs : List Int) (x : Int) (w : World) (hn : xs.length = n) (hle : n ≤ 1001) (h : IntsAt w b off xs) (hs : Srt xs) :
    Calls Try.prog 39 #[.slice (some ⟨b, off, none⟩) n cap, .int .i64 x] w fun e w' => e = .returned (.tuple #[.int .i64 (lowB xs x : Nat), .bool (foundB xs x)]) ∧ w' = w := by
  have H : Hid (IntsAt w b off xs) := h
  have HN : Hid (xs.length = n) := hn
  have HS : Hid (Srt xs) := hs
  clear h hn hs
  go_enter Try.func39, Try.ntmps39
  go_wp2
  go_loop [7, 8] (fun s7 s8 => ∃ lo hi : Nat, s7 = .int .i64 lo ∧ s8 = .int .i64 hi ∧ lo ≤ hi ∧ hi ≤ n ∧ (∀ t, t < lo → xs.getD t 0 < x) ∧ (∀ t, hi ≤ t → t < n → x ≤ xs.getD t 0)) (fun s7 s8 => (intOf s8).toNat - (intOf s7).toNat)
  case atStart => exact ⟨0, n, rfl, rfl, Nat.zero_le _, Nat.le_refl _, fun t ht => absurd ht (Nat.not_lt_zero _), fun t h1 h2 => by omega⟩
  case round =>
    obtain ⟨lo, hi, rfl, rfl, hlh, hin, h1, h2⟩ := hrel
    have I : Hid ((∀ t, t < lo → xs.getD t 0 < x) ∧ (∀ t, hi ≤ t → t < n → x ≤ xs.getD t 0)) := ⟨h1, h2⟩
    clear h1 h2
    by_cases hlt : lo < hi
    · have cm := H.out ((lo + hi) / 2) (by rw [HN.out]; omega)
      have Y1 : Hid (xs.getD ((lo + hi) / 2) 0 < x → ∀ t, t < (lo + hi) / 2 + 1 → xs.getD t 0 < x) := fun hy t ht => by
        have := srt_at xs HS.out t ((lo + hi) / 2) (by omega) (by rw [HN.out]; omega)
        omega
      have Y2 : Hid (x ≤ xs.getD ((lo + hi) / 2) 0 → ∀ t, (lo + hi) / 2 ≤ t → t < n → x ≤ xs.getD t 0) := fun hy t ht htn => by
        have := srt_at xs HS.out ((lo + hi) / 2) t ht (by rw [HN.out]; omega)
        omega
      generalize xs.getD ((lo + hi) / 2) 0 = y at cm Y1 Y2
      by_cases hyx : y < x
      · go_wp2
        go_round
        case rel => exact ⟨(lo + hi) / 2 + 1, hi, by go_num, rfl, by omega, hin, Y1.out hyx, I.out.2⟩
        case measure => simp [intOf]; omega
      · go_wp2
        go_round
        case rel => exact ⟨lo, (lo + hi) / 2, rfl, by go_num, by omega, by omega, I.out.1, Y2.out (by omega)⟩
        case measure => simp [intOf]; omega
    · obtain rfl : hi = lo := by omega
      have E : Hid (lowB xs x = hi) := lowB_is xs x hi (by rw [HN.out]; exact hin) I.out.1 (by rw [HN.out]; exact I.out.2)
      have F : Hid (foundB xs x = (decide (hi < n) && (xs.getD hi 0 == x))) := by show _ = _; unfold foundB; rw [E.out, HN.out]
      clear I
      by_cases hhn : hi < n
      · have ci := H.out hi (by rw [HN.out]; exact hhn)
        generalize xs.getD hi 0 = y at ci F
        cases ey : (y == x)
        · have F2 : Hid (foundB xs x = false) := by show _ = _; rw [F.out, ey, Bool.and_false]
          go_wp2
          go_ret2
          exact ⟨ret_two (by rw [E.out]) (by rw [F2.out]), rfl⟩
        · have F2 : Hid (foundB xs x = true) := by show _ = _; rw [F.out, ey, Bool.and_true]; simpa using hhn
          go_wp2
          go_ret2
          exact ⟨ret_two (by rw [E.out]) (by rw [F2.out]), rfl⟩
      · have F2 : Hid (foundB xs x = false) := by show _ = _; rw [F.out, decide_eq_false hhn, Bool.false_and]
        go_wp2
        go_ret2
        exact ⟨ret_two (by rw [E.out]) (by rw [F2.out]), rfl⟩

theorem search_nil (x : Int) (w : World) : Calls Try.prog 39 #[.slice none 0 0, .int .i64 x] w fun e w' => e = .returned (.tuple #[.int .i64 (lowB [] x : Nat), .bool (foundB [] x)]) ∧ w' = w := by
  have e1 : Hid (((lowB [] x : Nat) : Int) = 0) := rfl
  have e2 : Hid (foundB [] x = false) := rfl
  go_enter Try.func39, Try.ntmps39
  go_wp2
  refine wp_loop_rounds 1 ?_
  rw [rounds_succ]
  go_wp2
  go_ret2
  exact ⟨ret_two e1.out.symm e2.out.symm, rfl⟩

theorem search_any (a : Option Addr) (n cap : Nat) (xs : List Int) (x : Int) (w : World) (hle : n ≤ 1001) (h : SlI w a n xs) (hc : a = none → cap = 0) (hs : Srt xs) :
    Calls Try.prog 39 #[.slice a n cap, .int .i64 x] w fun e w' => e = .returned (.tuple #[.int .i64 (lowB xs x : Nat), .bool (foundB xs x)]) ∧ w' = w := by
  obtain ⟨hl, ⟨rfl, rfl⟩ | ⟨b, off, rfl, _, hI⟩⟩ := h
  · obtain rfl := hc rfl
    obtain rfl : xs = [] := List.eq_nil_of_length_eq_zero hl
    exact search_nil x w
  · exact search_some b off n cap xs x w hl hle hI hs

theorem low_split (x : Int) : ∀ (xs : List Int), Srt xs → ∃ i, i ≤ xs.length ∧ (∀ j, j < i → xs.getD j 0 < x) ∧ (∀ j, i ≤ j → j < xs.length → x ≤ xs.getD j 0)
  | [], _ => ⟨0, Nat.le_refl _, fun j hj => absurd hj (Nat.not_lt_zero _), fun j _ hj => absurd hj (Nat.not_lt_zero _)⟩
  | y :: r, h => by
    by_cases hy : y < x
    · obtain ⟨i, h1, h2, h3⟩ := low_split x r (List.pairwise_cons.1 h).2
      refine ⟨i + 1, by simpa using h1, fun j hj => ?_, fun j hj hl => ?_⟩
      · cases j with
        | zero => simpa using hy
        | succ j => simpa using h2 j (by omega)
      · cases j with
        | zero => omega
        | succ j => simpa using h3 j (by omega) (by simpa using hl)
    · refine ⟨0, Nat.zero_le _, fun j hj => absurd hj (Nat.not_lt_zero _), fun j _ hl => ?_⟩
      have := srt_at (y :: r) h 0 j (Nat.zero_le _) hl
      simp only [List.getD_cons_zero] at this
      omega
/-- the place where x belongs -/
theorem low_spec (xs : List Int) (x : Int) (hs : Srt xs) : lowB xs x ≤ xs.length ∧ (∀ t, t < lowB xs x → xs.getD t 0 < x) ∧ (∀ t, lowB xs x ≤ t → t < xs.length → x ≤ xs.getD t 0) := by
  obtain ⟨i, h1, h2, h3⟩ := low_split x xs hs
  rw [lowB_is xs x i h1 h2 h3]
  exact ⟨h1, h2, h3⟩
theorem ins_low_srt (xs : List Int) (x : Int) (hs : Srt xs) : Srt (insAt xs (lowB xs x) x) := by
  obtain ⟨h1, h2, h3⟩ := low_spec xs x hs
  exact insAt_srt xs _ x hs h1 (fun t ht => Int.le_of_lt (h2 t ht)) h3
end Go.Proofs.Qxb6612353a
