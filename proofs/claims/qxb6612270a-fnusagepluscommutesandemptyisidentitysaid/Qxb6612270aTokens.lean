/-
  'zzTokensAre', 'zzSameI'.
-/
import Derived.Test.Qxb6612270aInts
namespace Go.Proofs.Qxb6612270a
open Go.RowKit
set_option linter.unusedVariables false

/-- The number fits an int64. -/
def InR (u : Option Int) : Prop := ∀ x, u = some x → -9223372036854775808 ≤ x ∧ x ≤ 9223372036854775807

theorem sat_up (x y : Int) (h1 : x ≤ 9223372036854775807) (h2 : y ≤ 9223372036854775807) (hy : 0 < y) (h : 9223372036854775807 - y < x) : satI x y = 9223372036854775807 := by
  unfold satI wrap64
  rw [if_neg (by omega), if_neg (by omega), if_pos (by omega)]
theorem sat_down (x y : Int) (h1 : -9223372036854775808 ≤ x) (h2 : -9223372036854775808 ≤ y) (hy : y < 0) (h : x < -9223372036854775808 - y) : satI x y = -9223372036854775807 := by
  unfold satI wrap64
  rw [if_pos (by omega), if_pos (by omega), if_neg (by omega)]
theorem sat_mid (x y : Int) (h : -9223372036854775808 ≤ x + y) (h2 : x + y ≤ 9223372036854775807) : satI x y = x + y := by
  have e : wrap64 (x + y) = x + y := by unfold wrap64; omega
  unfold satI
  rw [e]
  split
  · split
    · rw [if_pos (by omega)]
    · rfl
  · split
    · rfl
    · rw [if_neg (by omega)]

set_option maxHeartbeats 1000000 in
theorem tokensAre_both (b off c oc g og : Nat) (x y : Int) (w : World) (rx : -9223372036854775808 ≤ x ∧ x ≤ 9223372036854775807) (ry : -9223372036854775808 ≤ y ∧ y ≤ 9223372036854775807)
    (hx : w.cell? ⟨b, off, none⟩ = some (.int .i64 x)) (hy : w.cell? ⟨c, oc, none⟩ = some (.int .i64 y)) (hg : w.cell? ⟨g, og, none⟩ = some (.int .i64 (satI x y))) :
    Calls Try.prog 9 #[.pointer (some ⟨g, og, none⟩), .pointer (some ⟨b, off, none⟩), .pointer (some ⟨c, oc, none⟩)] w fun e w' => e = .returned (.bool true) ∧ w' = w := by
  obtain ⟨rx1, rx2⟩ := rx
  obtain ⟨ry1, ry2⟩ := ry
  by_cases hy0 : 0 < y
  · by_cases hov : 9223372036854775807 - y < x
    · rw [sat_up x y rx2 ry2 hy0 hov] at hg
      go_enter Try.func9, Try.ntmps9
      go_wp2
      go_ret
      exact ⟨rfl, rfl⟩
    · rw [sat_mid x y (by omega) (by omega)] at hg
      go_enter Try.func9, Try.ntmps9
      go_wp2
      go_ret
      exact ⟨by simp, rfl⟩
  · by_cases hy1 : y < 0
    · by_cases hov : x < -9223372036854775808 - y
      · rw [sat_down x y rx1 ry1 hy1 hov] at hg
        go_enter Try.func9, Try.ntmps9
        go_wp2
        go_ret
        exact ⟨rfl, rfl⟩
      · rw [sat_mid x y (by omega) (by omega)] at hg
        go_enter Try.func9, Try.ntmps9
        go_wp2
        go_ret
        exact ⟨by simp, rfl⟩
    · rw [sat_mid x y (by omega) (by omega)] at hg
      go_enter Try.func9, Try.ntmps9
      go_wp2
      go_ret
      exact ⟨by simp, rfl⟩

set_option maxHeartbeats 400000 in
theorem tokensAre_any (g p q : Option Addr) (u v : Option Int) (w : World) (hg : PtI w g (addI u v)) (hp : PtI w p u) (hq : PtI w q v) (ru : InR u) (rv : InR v) :
    Calls Try.prog 9 #[.pointer g, .pointer p, .pointer q] w fun e w' => e = .returned (.bool true) ∧ w' = w := by
  rcases hp with ⟨rfl, rfl⟩ | ⟨b, off, x, rfl, rfl, hx⟩
  · rcases hq with ⟨rfl, rfl⟩ | ⟨c, oc, y, rfl, rfl, hy⟩
    · rcases hg with ⟨rfl, h⟩ | ⟨g, og, z, rfl, h, hz⟩
      · go_enter Try.func9, Try.ntmps9
        go_wp2
        go_ret
        exact ⟨rfl, rfl⟩
      · cases h
    · rcases hg with ⟨rfl, h⟩ | ⟨g, og, z, rfl, h, hz⟩
      · cases h
      · cases h
        go_enter Try.func9, Try.ntmps9
        go_wp2
        go_ret
        exact ⟨by simp, rfl⟩
  · rcases hq with ⟨rfl, rfl⟩ | ⟨c, oc, y, rfl, rfl, hy⟩
    · rcases hg with ⟨rfl, h⟩ | ⟨g, og, z, rfl, h, hz⟩
      · cases h
      · cases h
        go_enter Try.func9, Try.ntmps9
        go_wp2
        go_ret
        exact ⟨by simp, rfl⟩
    · rcases hg with ⟨rfl, h⟩ | ⟨g, og, z, rfl, h, hz⟩
      · cases h
      · cases h
        exact tokensAre_both b off c oc g og x y w (ru x rfl) (rv y rfl) hx hy hz

set_option maxHeartbeats 400000 in
theorem sameI_any (p q : Option Addr) (u : Option Int) (w : World) (hp : PtI w p u) (hq : PtI w q u) :
    Calls Try.prog 15 #[.pointer p, .pointer q] w fun e w' => e = .returned (.bool true) ∧ ∃ n, w' = w.drewN n := by
  rcases hp with ⟨rfl, rfl⟩ | ⟨b, off, x, rfl, rfl, hx⟩
  · rcases hq with ⟨rfl, h⟩ | ⟨c, oc, y, rfl, h, hy⟩
    · go_enter Try.func15, Try.ntmps15
      go_wp2
      go_ret
      exact ⟨rfl, 0, rfl⟩
    · cases h
  · rcases hq with ⟨rfl, h⟩ | ⟨c, oc, y, rfl, h, hy⟩
    · cases h
    · cases h
      go_enter Try.func15, Try.ntmps15
      go_wp2
      go_quiet (fail)
      go_wp2
      go_ret
      exact ⟨by simp, _, rfl⟩
end Go.Proofs.Qxb6612270a
