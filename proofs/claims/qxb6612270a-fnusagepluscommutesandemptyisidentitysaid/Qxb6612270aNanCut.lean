/-
  THE BITS THAT THE TAPE ANSWERS FOR AN INVALID float64 OPERATION ARE A NaN's.
-/
import Derived.Test.Qxb6612270aFloat
import GoSem.Core.Sem
namespace Go.Proofs.Qxb6612270a.Fl
theorem cut_gt (c M K a : Nat) (hM : M = 9223372036854775808) (hK : K = 9218868437227405312) (_h2 : c < 2) (h1 : a < 4503599627370495) : K < (c * M + K + 1 + a) % M := by subst hM; omega
theorem cut_lt (c M K a : Nat) (hM : M = 9223372036854775808) (hK : K = 9218868437227405312) (h2 : c < 2) (h1 : a < 4503599627370495) : c * M + K + 1 + a < 18446744073709551616 := by subst hM; omega
theorem cut_eq (x y t : Nat) : Question.cut (.nanBits .f64 x y) t = t % 2 * 2 ^ 63 + 0x7ff0000000000000 + 1 + t / 2 % (2 ^ 52 - 1) := rfl
theorem cut_nan (x y t : Nat) : nanB (Question.cut (.nanBits .f64 x y) t) = true := by
  have h := cut_gt (t % 2) (2 ^ 63) 0x7ff0000000000000 (t / 2 % (2 ^ 52 - 1)) (by decide) (by decide) (by omega) (by omega)
  rw [← cut_eq x y t] at h
  generalize Question.cut (.nanBits .f64 x y) t = v at h
  exact nan_of v h
theorem cut_bound (x y t : Nat) : Question.cut (.nanBits .f64 x y) t < 18446744073709551616 := by
  rw [cut_eq]
  exact cut_lt (t % 2) (2 ^ 63) 0x7ff0000000000000 (t / 2 % (2 ^ 52 - 1)) (by decide) (by decide) (by omega) (by omega)
end Go.Proofs.Qxb6612270a.Fl
