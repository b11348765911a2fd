/-
  THE PLAIN LAW OF float64 ADDITION (no Go in sight): what the sum of two finite numbers reads as.
-/
import GoSem.Core.Float
namespace Go.Proofs.Qxb6612270a.Fl
open Ieee

theorem read_eq (x : Nat) : double.read x =
    if x % 9223372036854775808 < 4503599627370496 then .number (x / 9223372036854775808 % 2 == 1) (x % 9223372036854775808) (-1074)
    else if x % 9223372036854775808 < 9218868437227405312 then .number (x / 9223372036854775808 % 2 == 1) (4503599627370496 + x % 9223372036854775808 % 4503599627370496) (-1074 + ((x % 9223372036854775808 / 4503599627370496 - 1 : Nat) : Int))
    else if x % 9223372036854775808 = 9218868437227405312 then .infinity (x / 9223372036854775808 % 2 == 1)
    else .nan (x / 9223372036854775808 % 2 == 1) (x % 9223372036854775808 - 9218868437227405312) := by
  rfl

theorem read_num {x : Nat} {s : Bool} {m : Nat} {i : Int} (h : double.read x = .number s m i) : m ≤ 9007199254740991 ∧ -1074 ≤ i ∧ i ≤ 971 := by
  rw [read_eq] at h
  split at h
  · cases h; omega
  · split at h
    · cases h
      refine ⟨?_, ?_, ?_⟩ <;> omega
    · split at h <;> cases h

theorem read_max : double.read 9218868437227405311 = .number false 9007199254740991 971 := by decide +kernel
theorem read_min : double.read 18442240474082181119 = .number true 9007199254740991 971 := by decide +kernel
theorem read_zero : double.read 0 = .number false 0 (-1074) := by decide +kernel

theorem signed_eq (s : Bool) (m k : Nat) : signed s m k = if s then -((m * 2 ^ k : Nat) : Int) else ((m * 2 ^ k : Nat) : Int) := by
  unfold signed
  rw [Nat.shiftLeft_eq]

theorem cmp_gt (a b : Int) : compare a b = .gt ↔ b < a := by
  simp only [compare, compareOfLessAndEq]
  split
  · simp; omega
  · split
    · simp; omega
    · simp; omega
theorem cmp_lt (a b : Int) : compare a b = .lt ↔ a < b := by
  simp only [compare, compareOfLessAndEq]
  split
  · simp; omega
  · split
    · simp; omega
    · simp; omega
theorem cmp_eq (a b : Int) : compare a b = .eq ↔ a = b := by
  simp only [compare, compareOfLessAndEq]
  split
  · simp; omega
  · split
    · simp; omega
    · simp; omega

theorem mul_le_shift (m M k : Nat) (h : m ≤ M) : m ≤ M * 2 ^ k := Nat.le_trans h (Nat.le_mul_of_pos_right _ (Nat.two_pow_pos _))

/-- Greater than the greatest finite number: the infinity, and nothing else. -/
theorem gt_max (x : Nat) : double.order x 9218868437227405311 = some .gt ↔ double.read x = .infinity false := by
  unfold Format.order
  rw [read_max]
  cases hx : double.read x with
  | nan s f => simp [Datum.order]
  | infinity s => cases s <;> simp [Datum.order]
  | number s m i =>
    obtain ⟨hm, h1, h2⟩ := read_num hx
    simp only [Datum.order, Option.some.injEq, cmp_gt, signed_eq]
    rw [show min i 971 = i by omega]
    simp only [Int.sub_self, Int.toNat_zero, Nat.pow_zero, Nat.mul_one]
    have := mul_le_shift m 9007199254740991 (971 - i).toNat hm
    generalize 9007199254740991 * 2 ^ (971 - i).toNat = K at this ⊢
    cases s
    · simp <;> omega
    · simp <;> omega

theorem lt_min (x : Nat) : double.order x 18442240474082181119 = some .lt ↔ double.read x = .infinity true := by
  unfold Format.order
  rw [read_min]
  cases hx : double.read x with
  | nan s f => simp [Datum.order]
  | infinity s => cases s <;> simp [Datum.order]
  | number s m i =>
    obtain ⟨hm, h1, h2⟩ := read_num hx
    simp only [Datum.order, Option.some.injEq, cmp_lt, signed_eq]
    rw [show min i 971 = i by omega]
    simp only [Int.sub_self, Int.toNat_zero, Nat.pow_zero, Nat.mul_one]
    have := mul_le_shift m 9007199254740991 (971 - i).toNat hm
    generalize 9007199254740991 * 2 ^ (971 - i).toNat = K at this ⊢
    cases s
    · simp <;> omega
    · simp <;> omega

/-- Less than zero. -/
theorem lt_zero (x : Nat) : double.order x 0 = some .lt ↔ (double.read x = .infinity true ∨ ∃ m i, double.read x = .number true m i ∧ m ≠ 0) := by
  unfold Format.order
  rw [read_zero]
  cases hx : double.read x with
  | nan s f => simp [Datum.order]
  | infinity s => cases s <;> simp [Datum.order]
  | number s m i =>
    simp only [Datum.order, Option.some.injEq, cmp_lt, signed_eq]
    have := mul_le_shift m m (i - min i (-1074)).toNat (Nat.le_refl _)
    have h0 : m = 0 → m * 2 ^ (i - min i (-1074)).toNat = 0 := fun h => by rw [h, Nat.zero_mul]
    rw [Nat.zero_mul]
    generalize m * 2 ^ (i - min i (-1074)).toNat = K at this h0 ⊢
    cases s
    · simp <;> omega
    · simp <;> omega

theorem self_eq (x : Nat) : double.order x x = some .eq ↔ ¬ ∃ s f, double.read x = .nan s f := by
  unfold Format.order
  cases hx : double.read x with
  | nan s f => simp [Datum.order]
  | infinity s => cases s <;> simp [Datum.order]
  | number s m i => simp [Datum.order]

/-! ### Rounding -/
theorem cut_zero (neg : Bool) (n : Nat) : Toward.even.cut neg n 0 = n := by
  simp [Toward.cut, Nat.mod_one]

/-- The rung before it is held at infinity's. -/
def rung (mag : Nat) (place : Int) : Nat :=
  (max (place + mag.log2 - 52) (-1074) + 1074).toNat * 4503599627370496 +
    Toward.even.cut false (mag <<< (place - max (place + mag.log2 - 52) (-1074)).toNat) (max (place + mag.log2 - 52) (-1074) - place).toNat

theorem cut_neg (neg : Bool) (n d : Nat) : Toward.even.cut neg n d = Toward.even.cut false n d := rfl

theorem nearest_eq (neg : Bool) (mag : Nat) (place : Int) (h : mag ≠ 0) :
    double.nearest neg mag place = if neg then 9223372036854775808 + min (rung mag place) 9218868437227405312 else min (rung mag place) 9218868437227405312 := by
  unfold Format.nearest rung
  rw [if_neg h]
  have e1 : (double.fractionBits : Int) = 52 := rfl
  have e2 : double.leastPlace = -1074 := rfl
  have e3 : double.binade = 4503599627370496 := rfl
  have e4 : double.infRung = 9218868437227405312 := rfl
  have e5 : double.signWeight = 9223372036854775808 := rfl
  simp only [e1, e2, e3, e4, Format.word, e5, cut_neg neg, Int.sub_neg]

theorem read_word (neg : Bool) (r : Nat) (h : r < 9223372036854775808) :
    double.read (if neg then 9223372036854775808 + r else r) =
      if r < 4503599627370496 then .number neg r (-1074)
      else if r < 9218868437227405312 then .number neg (4503599627370496 + r % 4503599627370496) (-1074 + ((r / 4503599627370496 - 1 : Nat) : Int))
      else if r = 9218868437227405312 then .infinity neg else .nan neg (r - 9218868437227405312) := by
  rw [read_eq]
  cases neg
  · have e1 : r % 9223372036854775808 = r := Nat.mod_eq_of_lt h
    have e2 : r / 9223372036854775808 = 0 := Nat.div_eq_of_lt h
    simp [e1, e2]
  · have e1 : (9223372036854775808 + r) % 9223372036854775808 = r := by omega
    have e2 : (9223372036854775808 + r) / 9223372036854775808 = 1 := by omega
    simp [e1, e2]

theorem log2_lt (m : Nat) (h : m ≠ 0) : 2 ^ m.log2 ≤ m ∧ m < 2 ^ (m.log2 + 1) := ⟨Nat.log2_self_le h, Nat.lt_log2_self⟩

theorem rung_pos (mag : Nat) (place : Int) (h : mag ≠ 0) (hp : -1074 ≤ place) : 0 < rung mag place := by
  unfold rung
  by_cases hl : place + mag.log2 - 52 ≤ -1074
  · rw [show max (place + (mag.log2 : Int) - 52) (-1074) = -1074 by omega]
    rw [show (-1074 - place).toNat = 0 by omega, cut_zero, Nat.shiftLeft_eq]
    have : 0 < mag * 2 ^ (place - -1074).toNat := Nat.mul_pos (by omega) (Nat.two_pow_pos _)
    omega
  · rw [show max (place + (mag.log2 : Int) - 52) (-1074) = place + mag.log2 - 52 by omega]
    have : 1 ≤ (place + mag.log2 - 52 + 1074).toNat := by omega
    have : 1 * 4503599627370496 ≤ (place + mag.log2 - 52 + 1074).toNat * 4503599627370496 := Nat.mul_le_mul_right _ this
    omega

theorem shl_lt (mag k : Nat) (h : mag ≠ 0) (hk : mag.log2 + k ≤ 52) : mag <<< k < 9007199254740992 := by
  rw [Nat.shiftLeft_eq]
  have h1 : mag * 2 ^ k < 2 ^ (mag.log2 + 1) * 2 ^ k := Nat.mul_lt_mul_of_pos_right (log2_lt mag h).2 (Nat.two_pow_pos _)
  rw [← Nat.pow_add] at h1
  have h2 : 2 ^ (mag.log2 + 1 + k) ≤ 2 ^ 53 := Nat.pow_le_pow_right (by omega) (by omega)
  have h3 : (2 : Nat) ^ 53 = 9007199254740992 := by decide
  omega

theorem cut_le (n d : Nat) (hd : d ≤ n.log2 + 2) : Toward.even.cut false n d ≤ n / 2 ^ d + 1 ∧ (n % 2 ^ d = 0 → Toward.even.cut false n d = n / 2 ^ d) := by
  have e : min d (n.log2 + 2) = d := by omega
  have hp : 0 < 2 ^ d := Nat.two_pow_pos _
  simp only [Toward.cut, e, Nat.shiftLeft_eq, Nat.one_mul]
  constructor
  · have : ∀ b : Bool, b.toNat ≤ 1 := fun b => by cases b <;> simp
    exact Nat.add_le_add_left (this _) _
  · intro hr
    rw [hr]
    have : (2 ^ d == 2 * 0) = false := by simp
    simp [this]

theorem rung_fin (mag : Nat) (place : Int) (h : mag ≠ 0) (hp : -1074 ≤ place) (hp2 : place ≤ 971) (hm : mag ≤ 9007199254740991 * 2 ^ (971 - place).toNat) : rung mag place < 9218868437227405312 := by
  have hlog : mag.log2 < 53 + (971 - place).toNat := by
    rw [Nat.log2_lt h, Nat.pow_add]
    have h3 : (2 : Nat) ^ 53 = 9007199254740992 := by decide
    rw [h3]
    have : 9007199254740991 * 2 ^ (971 - place).toNat < 9007199254740992 * 2 ^ (971 - place).toNat := Nat.mul_lt_mul_of_pos_right (by omega) (Nat.two_pow_pos _)
    omega
  unfold rung
  by_cases hl : place + mag.log2 - 52 ≤ -1074
  · rw [show max (place + (mag.log2 : Int) - 52) (-1074) = -1074 by omega]
    rw [show (-1074 - place).toNat = 0 by omega, cut_zero]
    have := shl_lt mag (place - -1074).toNat h (by omega)
    rw [show ((-1074 : Int) + 1074).toNat = 0 by omega]
    omega
  · rw [show max (place + (mag.log2 : Int) - 52) (-1074) = place + mag.log2 - 52 by omega]
    have hq : (place + mag.log2 - 52 + 1074).toNat ≤ 2045 := by omega
    by_cases hL : mag.log2 ≤ 52
    · rw [show (place + (mag.log2 : Int) - 52 - place).toNat = 0 by omega, cut_zero]
      have := shl_lt mag (place - (place + (mag.log2 : Int) - 52)).toNat h (by omega)
      omega
    · rw [show (place - (place + (mag.log2 : Int) - 52)).toNat = 0 by omega, Nat.shiftLeft_zero]
      obtain ⟨d, hd⟩ : ∃ d, d = (place + (mag.log2 : Int) - 52 - place).toNat := ⟨_, rfl⟩
      rw [← hd]
      have hd2 : d + 52 = mag.log2 := by omega
      obtain ⟨c1, c2⟩ := cut_le mag d (by omega)
      have hlow : mag / 2 ^ d < 9007199254740992 := by
        rw [Nat.div_lt_iff_lt_mul (Nat.two_pow_pos _)]
        have h1 := (log2_lt mag h).2
        rw [← hd2, show d + 52 + 1 = 53 + d by omega, Nat.pow_add] at h1
        exact h1
      by_cases h970 : place + mag.log2 - 52 ≤ 970
      · omega
      · have hP : (971 - place).toNat = d := by omega
        rw [hP] at hm
        have hk : Toward.even.cut false mag d ≤ 9007199254740991 := by
          by_cases hfull : mag / 2 ^ d = 9007199254740991
          · have hr : mag % 2 ^ d = 0 := by
              have := Nat.div_add_mod mag (2 ^ d)
              rw [hfull, Nat.mul_comm] at this
              omega
            rw [c2 hr]
            omega
          · omega
        omega

/-! ### The sum of two finite numbers -/
def ltz (x : Nat) : Bool := double.order x 0 == some .lt
theorem ltz_num {x : Nat} {s : Bool} {m : Nat} {i : Int} (h : double.read x = .number s m i) : ltz x = (s && decide (m ≠ 0)) := by
  have e : (ltz x = true) ↔ (s = true ∧ m ≠ 0) := by
    unfold ltz
    rw [beq_iff_eq, lt_zero, h]
    constructor
    · rintro (h' | ⟨m', i', h', h0⟩)
      · cases h'
      · cases h'; exact ⟨rfl, h0⟩
    · rintro ⟨rfl, h0⟩
      exact .inr ⟨_, _, rfl, h0⟩
  rw [Bool.eq_iff_iff, e]
  simp

theorem nearest_zero (neg : Bool) (b : Int) : double.nearest neg 0 b = if neg = true then 9223372036854775808 + 0 else 0 := by
  unfold Format.nearest
  rw [if_pos rfl]
  rfl

theorem add_is {x y : Nat} {s t : Bool} {m n : Nat} {i j b : Int} (hx : double.read x = .number s m i) (hy : double.read y = .number t n j) (hb : b = min i j) :
    double.add x y = some (double.nearest (if signed s m (i - b).toNat + signed t n (j - b).toNat = 0 then s && t else decide (signed s m (i - b).toNat + signed t n (j - b).toNat < 0)) (signed s m (i - b).toNat + signed t n (j - b).toNat).natAbs b) := by
  unfold Format.add
  rw [hx, hy, hb]
  simp only [Datum.sum, Option.map, Format.write]

theorem sgn_bound (n : Nat) (j b : Int) (hn : n ≤ 9007199254740991) (hj : j ≤ 971) :
    n * 2 ^ (j - b).toNat ≤ 9007199254740991 * 2 ^ (971 - b).toNat :=
  Nat.mul_le_mul hn (Nat.pow_le_pow_right (by omega) (by omega))

/-- WHAT THE SUM OF TWO FINITE NUMBERS READS AS. -/
theorem add_num {x y : Nat} {s t : Bool} {m n : Nat} {i j : Int} (hx : double.read x = .number s m i) (hy : double.read y = .number t n j) :
    ∃ r, double.add x y = some r ∧
      ((∃ s' m' i', double.read r = .number s' m' i') ∨ (double.read r = .infinity false ∧ ltz x = false ∧ ltz y = false) ∨ (double.read r = .infinity true ∧ ltz x = true ∧ ltz y = true)) ∧
      (ltz x = true → ltz y = true → ltz r = true) ∧ (ltz x = false → ltz y = false → ltz r = false) := by
  obtain ⟨hm, hi1, hi2⟩ := read_num hx
  obtain ⟨hn, hj1, hj2⟩ := read_num hy
  rw [ltz_num hx, ltz_num hy]
  obtain ⟨b, hb⟩ : ∃ b, b = min i j := ⟨_, rfl⟩
  have bm := sgn_bound m i b hm hi2
  have bn := sgn_bound n j b hn hj2
  have m0 : m = 0 → m * 2 ^ (i - b).toNat = 0 := fun h => by rw [h, Nat.zero_mul]
  have n0 : n = 0 → n * 2 ^ (j - b).toNat = 0 := fun h => by rw [h, Nat.zero_mul]
  have m1 : m ≤ m * 2 ^ (i - b).toNat := mul_le_shift m m _ (Nat.le_refl _)
  have n1 : n ≤ n * 2 ^ (j - b).toNat := mul_le_shift n n _ (Nat.le_refl _)
  have hadd := add_is hx hy hb
  refine ⟨_, hadd, ?_⟩
  clear hadd
  rw [signed_eq, signed_eq]
  generalize m * 2 ^ (i - b).toNat = M at *
  generalize n * 2 ^ (j - b).toNat = N at *
  generalize hT : (if s = true then -(M : Int) else (M : Int)) + (if t = true then -(N : Int) else (N : Int)) = T
  by_cases hT0 : T = 0
  · -- the sum cancels: a zero
    have er : double.nearest (if T = 0 then s && t else decide (T < 0)) T.natAbs b = if (s && t) = true then 9223372036854775808 + 0 else 0 := by
      rw [if_pos hT0, hT0, Int.natAbs_zero, nearest_zero]
    rw [er]
    have hr := read_word (s && t) 0 (by omega)
    simp only [show (0 : Nat) < 4503599627370496 by omega, if_true] at hr
    refine ⟨.inl ⟨_, _, _, hr⟩, ?_⟩
    rw [ltz_num hr]
    cases s <;> cases t <;> simp at hT ⊢ <;> omega
  · have hz : T.natAbs ≠ 0 := by omega
    rw [if_neg hT0, nearest_eq _ _ _ hz]
    have hpos := rung_pos T.natAbs b hz (by omega)
    have hfin : T.natAbs ≤ 9007199254740991 * 2 ^ (971 - b).toNat → rung T.natAbs b < 9218868437227405312 := rung_fin T.natAbs b hz (by omega) (by omega)
    generalize rung T.natAbs b = R at hpos hfin
    generalize 9007199254740991 * 2 ^ (971 - b).toNat = K at hfin bm bn
    have hr := read_word (decide (T < 0)) (min R 9218868437227405312) (by omega)
    generalize (if decide (T < 0) = true then 9223372036854775808 + min R 9218868437227405312 else min R 9218868437227405312) = r at hr
    by_cases hRi : R < 9218868437227405312
    · rw [show min R 9218868437227405312 = R by omega] at hr
      by_cases hRb : R < 4503599627370496
      · rw [if_pos hRb] at hr
        refine ⟨.inl ⟨_, _, _, hr⟩, ?_⟩
        rw [ltz_num hr]
        cases s <;> cases t <;> simp at hT ⊢ <;> omega
      · rw [if_neg hRb, if_pos hRi] at hr
        refine ⟨.inl ⟨_, _, _, hr⟩, ?_⟩
        rw [ltz_num hr]
        cases s <;> cases t <;> simp at hT ⊢ <;> omega
    · rw [show min R 9218868437227405312 = 9218868437227405312 by omega] at hr
      simp only [show ¬ (9218868437227405312 : Nat) < 4503599627370496 by omega, show ¬ (9218868437227405312 : Nat) < 9218868437227405312 by omega, if_false, if_true] at hr
      have hbig : ¬ T.natAbs ≤ K := fun h => hRi (hfin h)
      have hlr : ltz r = decide (T < 0) := by
        have e : (ltz r = true) ↔ T < 0 := by
          unfold ltz
          rw [beq_iff_eq, lt_zero, hr]
          simp
        rw [Bool.eq_iff_iff, e]
        simp
      rw [hlr]
      by_cases hneg : T < 0
      · simp only [hneg, decide_true] at hr ⊢
        refine ⟨.inr (.inr ⟨hr, ?_⟩), ?_⟩
        · cases s <;> cases t <;> simp at hT ⊢ <;> omega
        · cases s <;> cases t <;> simp at hT ⊢ <;> omega
      · simp only [hneg, decide_false] at hr ⊢
        refine ⟨.inr (.inl ⟨hr, ?_⟩), ?_⟩
        · cases s <;> cases t <;> simp at hT ⊢ <;> omega
        · cases s <;> cases t <;> simp at hT ⊢ <;> omega

/-- Is the word an infinity's? -/
def infB (x : Nat) : Bool := match double.read x with | .infinity _ => true | _ => false
/-- Is the word a NaN's? -/
def nanB (x : Nat) : Bool := match double.read x with | .nan _ _ => true | _ => false
def absW (x : Nat) : Nat := x % 9223372036854775808

theorem abs_gt (x : Nat) : (double.order (absW x) 9218868437227405311 == some .gt) = infB x := by
  have e : ((double.order (absW x) 9218868437227405311 == some .gt) = true) ↔ infB x = true := by
    rw [beq_iff_eq, gt_max]
    unfold infB absW
    rw [read_eq, read_eq x, Nat.mod_mod, Nat.div_eq_of_lt (Nat.mod_lt x (by omega : 0 < 9223372036854775808))]
    generalize x % 9223372036854775808 = a
    by_cases h1 : a < 4503599627370496
    · simp only [h1, if_true]; simp
    · by_cases h2 : a < 9218868437227405312
      · simp only [h1, h2, if_true, if_false]; simp
      · by_cases h3 : a = 9218868437227405312
        · simp [h3]
        · simp only [h3, h1, h2, if_false]; simp
  rw [Bool.eq_iff_iff]
  exact e

theorem inf_two (x : Nat) : ((double.order x 9218868437227405311 == some .gt) || (double.order x 18442240474082181119 == some .lt)) = infB x := by
  have e : ((double.order x 9218868437227405311 == some .gt) || (double.order x 18442240474082181119 == some .lt)) = true ↔ infB x = true := by
    rw [Bool.or_eq_true, beq_iff_eq, beq_iff_eq, gt_max, lt_min]
    unfold infB
    cases hx : double.read x with
    | nan s f => simp
    | number s m i => simp
    | infinity s => cases s <;> simp
  rw [Bool.eq_iff_iff]
  exact e

theorem gt_self_nan (x : Nat) : (double.order x x != some .eq) = nanB x := by
  unfold Format.order nanB
  cases hx : double.read x with
  | nan s f => simp [Datum.order]
  | number s m i => simp [Datum.order]
  | infinity s => cases s <;> simp [Datum.order]

theorem nan_order (x y : Nat) (h : nanB x = true) : double.order x y = none := by
  unfold nanB at h
  unfold Format.order
  cases hx : double.read x with
  | nan s f => simp [Datum.order]
  | number s m i => simp [hx] at h
  | infinity s => simp [hx] at h

/-- A finite number. -/
def finB (x : Nat) : Bool := match double.read x with | .number .. => true | _ => false
theorem three (x : Nat) : (nanB x = true ∧ infB x = false ∧ finB x = false) ∨ (nanB x = false ∧ infB x = true ∧ finB x = false) ∨ (nanB x = false ∧ infB x = false ∧ finB x = true) := by
  unfold nanB infB finB
  cases double.read x <;> simp

theorem add_nan_l (x y : Nat) (h : nanB x = true) : double.add x y = none := by
  unfold nanB at h
  unfold Format.add
  cases hx : double.read x with
  | nan s f => simp [Datum.sum]
  | number s m i => simp [hx] at h
  | infinity s => simp [hx] at h
theorem add_nan_r (x y : Nat) (h : nanB y = true) : double.add x y = none := by
  unfold nanB at h
  unfold Format.add
  cases hy : double.read y with
  | nan s f => cases double.read x <;> simp [Datum.sum]
  | number s m i => simp [hy] at h
  | infinity s => simp [hy] at h

theorem add_fin (x y : Nat) (hx : finB x = true) (hy : finB y = true) :
    ∃ r, double.add x y = some r ∧ (finB r = true ∨ (double.read r = .infinity false ∧ ltz x = false ∧ ltz y = false) ∨ (double.read r = .infinity true ∧ ltz x = true ∧ ltz y = true)) ∧
      (ltz x = true → ltz y = true → ltz r = true) ∧ (ltz x = false → ltz y = false → ltz r = false) := by
  unfold finB at hx hy
  cases ex : double.read x with
  | nan s f => simp [ex] at hx
  | infinity s => simp [ex] at hx
  | number s m i =>
    cases ey : double.read y with
    | nan s f => simp [ey] at hy
    | infinity s => simp [ey] at hy
    | number t n j =>
      obtain ⟨r, h1, h2, h3⟩ := add_num ex ey
      refine ⟨r, h1, ?_, h3⟩
      rcases h2 with ⟨s', m', i', h⟩ | h
      · exact .inl (by simp [finB, h])
      · exact .inr h

theorem add_comm_fin (x y : Nat) (hx : finB x = true) (hy : finB y = true) : double.add x y = double.add y x := by
  unfold finB at hx hy
  cases ex : double.read x with
  | nan s f => simp [ex] at hx
  | infinity s => simp [ex] at hx
  | number s m i =>
    cases ey : double.read y with
    | nan s f => simp [ey] at hy
    | infinity s => simp [ey] at hy
    | number t n j =>
      rw [add_is ex ey rfl, add_is ey ex rfl, Int.min_comm j i, Int.add_comm (signed t n _), Bool.and_comm t s]

theorem nan_ltz (x : Nat) (h : nanB x = true) : ltz x = false := by
  unfold ltz
  rw [nan_order x 0 h]
  rfl

/-- Finite or not, it is none of the two. -/
theorem fin_gt (x : Nat) (h : finB x = true) : double.order x 9218868437227405311 ≠ some .gt ∧ double.order x 18442240474082181119 ≠ some .lt := by
  rw [Ne, gt_max, Ne, lt_min]
  unfold finB at h
  cases ex : double.read x with
  | nan s f => simp
  | infinity s => simp [ex] at h
  | number s m i => simp

theorem nan_of (v : Nat) (h : 9218868437227405312 < v % 9223372036854775808) : nanB v = true := by
  unfold nanB
  rw [read_eq]
  generalize v % 9223372036854775808 = b at h
  rw [if_neg (by omega), if_neg (by omega), if_neg (by omega)]
end Go.Proofs.Qxb6612270a.Fl
