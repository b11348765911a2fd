/-
  small laws of the walk of 'FnTakeKeepsWindowOfLatest'.
-/
import Derived.Test.Qxb6612353aTake
import Derived.Test.Qxb6612353aFig2
import Derived.Test.Qxb6612353aWalkG
namespace Go.Proofs.Qxb6612353a
open Go.RowKit
set_option linter.unusedVariables false

theorem outs_drop {w : World} {b n : Nat} {L : List O} (h : OutsUp w b 0 L (n + 1)) : OutsUp w b 3 (L.drop 1) n := by
  intro j hj
  have h' := h (j + 1) (by omega)
  rw [getDO_drop, show 3 + j * 3 = 0 + (j + 1) * 3 by omega, Nat.add_comm 1 j]
  exact h'

theorem figures_gen_is (b : Bool) (aa : Option Addr) (na ca : Nat) (xs : List Int) (sum f t l : Int) (a : Option Addr) (n cap : Nat) (rs : List O) (w : World) (hb : figB xs sum f t l rs = b) (hle : n ≤ 1001) (hx : SlZ w aa na xs) (hna : na ≤ 1001) (h : SlO w a n rs) :
    Calls Try.prog 8 #[.slice aa na ca, .int .i64 sum, .int .i64 f, .int .i64 t, .int .i64 l, .slice a n cap] w fun e w' => e = .returned (.bool b) ∧ Later w w' := by
  rw [← hb]; exact figures_gen aa na ca xs sum f t l a n cap rs w hle hx hna h
end Go.Proofs.Qxb6612353a
