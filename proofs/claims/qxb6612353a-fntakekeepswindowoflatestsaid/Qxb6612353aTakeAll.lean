/-
  'FnTakeKeepsWindowOfLatest': the early ways out, and the whole walk.
-/
import Derived.Test.Qxb6612353aAdmitAll
import Derived.Test.Qxb6612353aWalkTNS
import Derived.Test.Qxb6612353aWalkTNA
import Derived.Test.Qxb6612353aWalkTNB
import Derived.Test.Qxb6612353aWalkTXS
import Derived.Test.Qxb6612353aWalkTXA
import Derived.Test.Qxb6612353aWalkTXB
namespace Go.Proofs.Qxb6612353a
open Go.RowKit
set_option linter.unusedVariables false

set_option maxHeartbeats 2000000 in
set_option maxRecDepth 100000 in
theorem take_early (cnt : Int) (a1 : Option Addr) (n1 c1 : Nat) (nxt : Int) (a3 : Option Addr) (n3 c3 : Nat) (sum f t l : Int) (s : Int) (tt : Bool) (ll : Int) (w : World)
    (m1 : n1 ≤ 9223372036854775807) (m3 : n3 ≤ 9223372036854775807) (h : 1000 < n1 ∨ 1000 < n3) :
    Calls Try.prog 3 #[.int .i64 cnt, .slice a1 n1 c1, .int .i64 nxt, .slice a3 n3 c3, .int .i64 sum, .int .i64 f, .int .i64 t, .int .i64 l, .agg #[.int .i64 s, .bool tt, .int .i64 ll]] w fun e w' => e = .returned (.bool true) ∧ Later w w' := by
  have H : Hid (1000 < n1 ∨ 1000 < n3) := h
  clear h
  by_cases h1 : 1048576 < n1
  · go_enter Try.func3, Try.ntmps3
    go_wp2
    go_ret
    exact ⟨rfl, ((Later.refl w).alloc _).alloc _⟩
  · by_cases h3 : 1048576 < n3
    · go_enter Try.func3, Try.ntmps3
      go_wp2
      go_ret
      exact ⟨rfl, ((Later.refl w).alloc _).alloc _⟩
    · by_cases h13 : 1048576 < n1 + n3
      · go_enter Try.func3, Try.ntmps3
        go_wp2
        go_ret
        exact ⟨rfl, ((Later.refl w).alloc _).alloc _⟩
      · by_cases k1 : 1000 < n1
        · have hd : decide ((1000 : Int) < (n1 : Int)) = true := by simp; omega
          go_enter Try.func3, Try.ntmps3
          go_wp2
          go_ret
          exact ⟨rfl, ((Later.refl w).alloc _).alloc _⟩
        · have k3 : 1000 < n3 := by rcases H.out with h | h <;> omega
          have hd : decide ((1000 : Int) < (n1 : Int)) = false := by simp; omega
          have hd2 : decide ((1000 : Int) < (n3 : Int)) = true := by simp; omega
          go_enter Try.func3, Try.ntmps3
          go_wp2
          go_ret
          exact ⟨rfl, ((Later.refl w).alloc _).alloc _⟩

set_option maxHeartbeats 2000000 in
set_option maxRecDepth 100000 in
theorem take_shape_false (cnt : Int) (a1 : Option Addr) (n1 c1 : Nat) (nxt : Int) (a3 : Option Addr) (n3 c3 : Nat) (sum f t l : Int) (s : Int) (tt : Bool) (ll : Int) (w : World)
    (h11 : n1 ≤ 1000) (h3 : n3 ≤ 1000) (hcn : cnt ≤ 9223372036854775807) (hsh : shapeB cnt n1 nxt = false) :
    Calls Try.prog 3 #[.int .i64 cnt, .slice a1 n1 c1, .int .i64 nxt, .slice a3 n3 c3, .int .i64 sum, .int .i64 f, .int .i64 t, .int .i64 l, .agg #[.int .i64 s, .bool tt, .int .i64 ll]] w fun e w' => e = .returned (.bool true) ∧ Later w w' := by
  have HSH : Hid (shapeB cnt n1 nxt = false) := hsh
  have HCN : Hid (cnt ≤ 9223372036854775807) := hcn
  clear hsh hcn
  go_enter Try.func3, Try.ntmps3
  go_wp2_with (first | (go_at_call 7; refine (shape_is cnt n1 nxt false HSH.out _ h11 HCN.out).mono ?_; rintro e w' ⟨rfl, rfl⟩) | (go_at_call 6; go_in))
  go_ret
  exact ⟨rfl, ((Later.refl w).alloc _).alloc _⟩

set_option maxHeartbeats 2000000 in
set_option maxRecDepth 100000 in
theorem take_fig_false (cnt : Int) (a1 : Option Addr) (n1 c1 : Nat) (rs : List O) (nxt : Int) (a3 : Option Addr) (n3 c3 : Nat) (xs : List Int) (sum f t l : Int) (s : Int) (tt : Bool) (ll : Int) (w : World)
    (h11 : n1 ≤ 1000) (h3 : n3 ≤ 1000) (hcn : cnt ≤ 9223372036854775807) (hsh : shapeB cnt n1 nxt = true) (h1 : SlO w a1 n1 rs) (hx : SlZ w a3 n3 xs) (hfig : figB xs sum f t l rs = false) :
    Calls Try.prog 3 #[.int .i64 cnt, .slice a1 n1 c1, .int .i64 nxt, .slice a3 n3 c3, .int .i64 sum, .int .i64 f, .int .i64 t, .int .i64 l, .agg #[.int .i64 s, .bool tt, .int .i64 ll]] w fun e w' => e = .returned (.bool true) ∧ Later w w' := by
  have HSH : Hid (shapeB cnt n1 nxt = true) := hsh
  have HCN : Hid (cnt ≤ 9223372036854775807) := hcn
  have HR : Hid (SlO w a1 n1 rs) := h1
  have HX : Hid (SlZ w a3 n3 xs) := hx
  have HF : Hid (figB xs sum f t l rs = false) := hfig
  clear hsh hcn h1 hx hfig
  go_enter Try.func3, Try.ntmps3
  go_wp2_with (first | (go_at_call 7; refine (shape_is cnt n1 nxt true HSH.out _ h11 HCN.out).mono ?_; rintro e w' ⟨rfl, rfl⟩) | (go_at_call 6; go_in))
  have HLW : Hid (Later w ((w.alloc (.cells #[.int .i64 s, .bool tt, .int .i64 ll] 25)).alloc (.cells #[.int .i64 s, .bool tt, .int .i64 ll] 25))) := ((Later.refl w).alloc _).alloc _
  refine (figures_gen_is false a3 n3 c3 xs sum f t l a1 n1 c1 rs _ HF.out (by omega) (HX.out.keep HLW.out) (by omega) (HR.out.keep HLW.out)).mono ?_
  rintro e w1 ⟨rfl, hl1⟩
  go_wp2_with fail
  go_ret
  exact ⟨rfl, HLW.out.trans hl1⟩

theorem row_slz {w : World} {a : Option Addr} {n c : Nat} {zs : List Int} (h : RowAt w a n c zs) : SlZ w a n (zs.take n) := by
  rcases h with ⟨rfl, rfl, rfl, rfl⟩ | ⟨x, rfl, hl, hm, hz, hc⟩
  · exact ⟨rfl, .inl rfl⟩
  · refine ⟨by simp; omega, ?_⟩
    by_cases h0 : n = 0
    · exact .inl h0
    · obtain ⟨b, off, spot⟩ := x
      have k0 := hc 0 (by omega)
      have hs : spot = none := by simpa [Addr.add] using World.cell?_spot k0
      subst hs
      refine .inr ⟨b, off, rfl, ?_, fun j hj => ?_⟩
      · rw [Addr.add_lit] at k0
        exact World.block_lt_of_cell? w _ k0
      · have hj' : j < n := by simp at hj; omega
        have := hc j (by omega)
        rw [Addr.add_lit] at this
        rw [this, getD_take _ _ _ hj']

theorem take_all (cnt : Int) (a1 : Option Addr) (n1 c1 : Nat) (rs : List O) (nxt : Int) (a3 : Option Addr) (n3 c3 : Nat) (zs : List Int) (sum f t l : Int) (s : Int) (tt : Bool) (ll : Int) (w : World)
    (hcn : cnt ≤ 9223372036854775807) (m1 : n1 ≤ 9223372036854775807) (h1 : SlO w a1 n1 rs) (z1 : a1 = none → c1 = 0) (h3 : RowAt w a3 n3 c3 zs) :
    Calls Try.prog 3 #[.int .i64 cnt, .slice a1 n1 c1, .int .i64 nxt, .slice a3 n3 c3, .int .i64 sum, .int .i64 f, .int .i64 t, .int .i64 l, .agg #[.int .i64 s, .bool tt, .int .i64 ll]] w fun e w' => e = .returned (.bool true) ∧ Later w w' := by
  have m3 : n3 ≤ 9223372036854775807 := by
    rcases h3 with ⟨_, h, _⟩ | ⟨x, _, h, hm, _⟩
    · omega
    · unfold maxLen at hm; omega
  by_cases hbig : 1000 < n1 ∨ 1000 < n3
  · exact take_early cnt a1 n1 c1 nxt a3 n3 c3 sum f t l s tt ll w m1 m3 hbig
  have h11 : n1 ≤ 1000 := by omega
  have h33 : n3 ≤ 1000 := by omega
  have hx := row_slz h3
  cases hsh : shapeB cnt n1 nxt
  · exact take_shape_false cnt a1 n1 c1 nxt a3 n3 c3 sum f t l s tt ll w h11 h33 hcn hsh
  cases hfig : figB (zs.take n3) sum f t l rs
  · exact take_fig_false cnt a1 n1 c1 rs nxt a3 n3 c3 _ sum f t l s tt ll w h11 h33 hcn hsh h1 hx hfig
  obtain ⟨q1, q2, q3⟩ := shape_next h11 hsh
  obtain ⟨p, rfl⟩ : ∃ p : Nat, nxt = (p : Int) := ⟨nxt.toNat, by omega⟩
  have hp1 : p < 1000 := by omega
  have hpn : p ≤ n1 := by
    rcases Nat.lt_or_ge n1 1000 with h | h
    · have := q3 h; omega
    · omega
  rcases h3 with ⟨rfl, rfl, rfl, rfl⟩ | ⟨x, rfl, hlc, hm, hzl, hc⟩
  · rcases Nat.lt_or_ge n1 1000 with h | h
    · exact take_walk_nil_S cnt a1 n1 c1 p rs sum f t l s tt ll w h1 z1 h11 hpn hp1 hcn hx hsh hfig (by have := q3 h; omega) h
    · by_cases e : p + 1 = 1000
      · exact take_walk_nil_A cnt a1 n1 c1 p rs sum f t l s tt ll w h1 z1 h11 hpn hp1 hcn hx hsh hfig (by omega) e
      · exact take_walk_nil_B cnt a1 n1 c1 p rs sum f t l s tt ll w h1 z1 h11 hpn hp1 hcn hx hsh hfig (by omega) (by omega)
  · rcases Nat.lt_or_ge n1 1000 with h | h
    · exact take_walk_some_S cnt a1 n1 c1 p rs x n3 c3 zs sum f t l s tt ll w h1 z1 h11 hpn hp1 hcn hlc h33 hzl hc hx hsh hfig (by have := q3 h; omega) h
    · by_cases e : p + 1 = 1000
      · exact take_walk_some_A cnt a1 n1 c1 p rs x n3 c3 zs sum f t l s tt ll w h1 z1 h11 hpn hp1 hcn hlc h33 hzl hc hx hsh hfig (by omega) e
      · exact take_walk_some_B cnt a1 n1 c1 p rs x n3 c3 zs sum f t l s tt ll w h1 z1 h11 hpn hp1 hcn hlc h33 hzl hc hx hsh hfig (by omega) (by omega)
end Go.Proofs.Qxb6612353a
