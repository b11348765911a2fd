/-
  'FnAdmitCompletesFigures': the early ways out, and the whole walk.
-/
import Derived.Test.Qxb6612353aWalkG
namespace Go.Proofs.Qxb6612353a
open Go.RowKit
set_option linter.unusedVariables false

set_option maxHeartbeats 2000000 in
set_option maxRecDepth 100000 in
theorem admit_early (cnt : Int) (a1 : Option Addr) (n1 c1 : Nat) (nxt : Int) (a3 : Option Addr) (n3 c3 : Nat) (sum f t l : Int) (s : Int) (tt : Bool) (ll : Int) (w : World)
    (m1 : n1 ≤ 9223372036854775807) (m3 : n3 ≤ 9223372036854775807) (h : 1000 < n1 ∨ 1000 < n3) :
    Calls Try.prog 5 #[.int .i64 cnt, .slice a1 n1 c1, .int .i64 nxt, .slice a3 n3 c3, .int .i64 sum, .int .i64 f, .int .i64 t, .int .i64 l, .agg #[.int .i64 s, .bool tt, .int .i64 ll]] w fun e w' => e = .returned (.bool true) ∧ Later w w' := by
  have H : Hid (1000 < n1 ∨ 1000 < n3) := h
  clear h
  by_cases h1 : 1048576 < n1
  · go_enter Try.func5, Try.ntmps5
    go_wp2
    go_ret
    exact ⟨rfl, ((Later.refl w).alloc _).alloc _⟩
  · by_cases h3 : 1048576 < n3
    · go_enter Try.func5, Try.ntmps5
      go_wp2
      go_ret
      exact ⟨rfl, ((Later.refl w).alloc _).alloc _⟩
    · by_cases h13 : 1048576 < n1 + n3
      · go_enter Try.func5, Try.ntmps5
        go_wp2
        go_ret
        exact ⟨rfl, ((Later.refl w).alloc _).alloc _⟩
      · by_cases k1 : 1000 < n1
        · have hd : decide ((1000 : Int) < (n1 : Int)) = true := by simp; omega
          go_enter Try.func5, Try.ntmps5
          go_wp2
          go_ret
          exact ⟨rfl, ((Later.refl w).alloc _).alloc _⟩
        · have k3 : 1000 < n3 := by rcases H.out with h | h <;> omega
          have hd : decide ((1000 : Int) < (n1 : Int)) = false := by simp; omega
          have hd2 : decide ((1000 : Int) < (n3 : Int)) = true := by simp; omega
          go_enter Try.func5, Try.ntmps5
          go_wp2
          go_ret
          exact ⟨rfl, ((Later.refl w).alloc _).alloc _⟩

set_option maxHeartbeats 2000000 in
set_option maxRecDepth 100000 in
theorem admit_empty (cnt : Int) (a1 : Option Addr) (c1 : Nat) (nxt : Int) (a3 : Option Addr) (n3 c3 : Nat) (sum f t l : Int) (s : Int) (tt : Bool) (ll : Int) (w : World) (h3 : n3 ≤ 1000) :
    Calls Try.prog 5 #[.int .i64 cnt, .slice a1 0 c1, .int .i64 nxt, .slice a3 n3 c3, .int .i64 sum, .int .i64 f, .int .i64 t, .int .i64 l, .agg #[.int .i64 s, .bool tt, .int .i64 ll]] w fun e w' => e = .returned (.bool true) ∧ Later w w' := by
  have hd : decide ((1000 : Int) < (n3 : Int)) = false := by simp; omega
  go_enter Try.func5, Try.ntmps5
  go_wp2
  go_ret
  exact ⟨rfl, ((Later.refl w).alloc _).alloc _⟩

/-- a slice of int64 that came in -/
def RowAt (w : World) (a : Option Addr) (len cap : Nat) (zs : List Int) : Prop :=
  (a = none ∧ len = 0 ∧ cap = 0 ∧ zs = []) ∨
  ∃ x, a = some x ∧ len ≤ cap ∧ cap ≤ maxLen ∧ zs.length = cap ∧ (∀ i, i < zs.length → w.cell? (x.add i) = some (.int .i64 (zs.getD i 0)))

theorem admit_all (cnt : Int) (a1 : Option Addr) (n1 c1 : Nat) (rs : List O) (nxt : Int) (a3 : Option Addr) (n3 c3 : Nat) (zs : List Int) (sum f t l : Int) (s : Int) (tt : Bool) (ll : Int) (w : World)
    (hcn : cnt ≤ 9223372036854775807) (m1 : n1 ≤ 9223372036854775807) (h1 : SlO w a1 n1 rs) (h3 : RowAt w a3 n3 c3 zs) :
    Calls Try.prog 5 #[.int .i64 cnt, .slice a1 n1 c1, .int .i64 nxt, .slice a3 n3 c3, .int .i64 sum, .int .i64 f, .int .i64 t, .int .i64 l, .agg #[.int .i64 s, .bool tt, .int .i64 ll]] w fun e w' => e = .returned (.bool true) ∧ Later w w' := by
  have m3 : n3 ≤ 9223372036854775807 := by
    rcases h3 with ⟨_, h, _⟩ | ⟨x, _, h, hm, _⟩
    · omega
    · unfold maxLen at hm; omega
  by_cases hbig : 1000 < n1 ∨ 1000 < n3
  · exact admit_early cnt a1 n1 c1 nxt a3 n3 c3 sum f t l s tt ll w m1 m3 hbig
  · by_cases h0 : n1 = 0
    · subst h0
      exact admit_empty cnt a1 c1 nxt a3 n3 c3 sum f t l s tt ll w (by omega)
    · obtain ⟨hl, h | ⟨b, off, rfl, hb, hu⟩⟩ := h1
      · omega
      rcases h3 with ⟨rfl, rfl, rfl, rfl⟩ | ⟨x, rfl, hlc, hm, hzl, hc⟩
      · exact admit_walk_nil cnt b off n1 c1 rs nxt sum f t l s tt ll w hl (by omega) (by omega) hb hu hcn
      · exact admit_walk_some cnt b off n1 c1 rs nxt x n3 c3 zs sum f t l s tt ll w hl (by omega) (by omega) hb hu hcn hlc (by omega) hzl hc
end Go.Proofs.Qxb6612353a
