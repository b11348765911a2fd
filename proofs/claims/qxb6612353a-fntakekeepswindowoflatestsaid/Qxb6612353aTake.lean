/-
  'take' and 'ZZtake': one contract.
-/
import Derived.Test.Qxb6612353aTakeF
import Derived.Test.Qxb6612353aRot
namespace Go.Proofs.Qxb6612353a
open Go.RowKit
set_option linter.unusedVariables false

/-- the window's outcomes lie in a row of their own -/
def RecAt (w : World) (M B : Nat) (ra : Option Addr) (n : Nat) (rs : List O) : Prop :=
  rs.length = n ∧ ((ra = none ∧ n = 0) ∨ ∃ R, ra = some ⟨R, 0, none⟩ ∧ M ≤ R ∧ R ≠ B ∧ OutsUp w R 0 rs n ∧ Free w R (n * 3))
/-- and its latencies in another -/
def AnsAt (w : World) (M B : Nat) (ra a : Option Addr) (m : Nat) (xs : List Int) : Prop :=
  xs.length = m ∧ ((a = none ∧ m = 0) ∨ ∃ A, a = some ⟨A, 0, none⟩ ∧ M ≤ A ∧ A < w.heap.size ∧ A ≠ B ∧ (∀ R, ra = some ⟨R, 0, none⟩ → A ≠ R) ∧ IntsW w A 0 xs)
theorem RecAt.keep {w w' : World} {M B n : Nat} {ra : Option Addr} {rs : List O} (h : RecAt w M B ra n rs) (hl : Later w w') : RecAt w' M B ra n rs := by
  obtain ⟨h0, h | ⟨R, h1, h2, h3, h4, h5⟩⟩ := h
  · exact ⟨h0, .inl h⟩
  · exact ⟨h0, .inr ⟨R, h1, h2, h3, h4.keep hl, h5.keep hl⟩⟩
theorem AnsAt.keep {w w' : World} {M B m : Nat} {ra a : Option Addr} {xs : List Int} (h : AnsAt w M B ra a m xs) (hl : Later w w') : AnsAt w' M B ra a m xs := by
  obtain ⟨h0, h | ⟨A, h1, h2, h3, h4, h5, h6⟩⟩ := h
  · exact ⟨h0, .inl h⟩
  · exact ⟨h0, .inr ⟨A, h1, h2, Nat.lt_of_lt_of_le h3 hl.size, h4, h5, h6.keep hl⟩⟩
theorem AnsAt.slb {w : World} {M B m : Nat} {ra a : Option Addr} {xs : List Int} (h : AnsAt w M B ra a m xs) : SlB w B a m xs := by
  obtain ⟨h0, h | ⟨A, rfl, h2, h3, h4, h5, h6⟩⟩ := h
  · exact ⟨⟨h0, .inl h⟩, fun x hx => by rw [h.1] at hx; cases hx⟩
  · exact ⟨⟨h0, .inr ⟨A, 0, rfl, h3, h6.ints⟩⟩, fun x hx => by cases hx; exact h4⟩

/-- What a take leaves: the outcomes ch, read round from q, and their figures. -/
def TakePost (M B N q : Nat) (cnt : Int) (ch : List O) (w w' : World) : Prop :=
  Below M w w' ∧ ∃ g gc rs' a' n' c' ys sum' f' t' l', Win w' B (wrap64 (cnt + 1)) (.slice (some ⟨g, 0, none⟩) N gc) (q : Int) (.slice a' n' c') sum' f' t' l' ∧ g < w'.heap.size ∧ OutsUp w' g 0 rs' N ∧ SlI w' a' n' ys ∧ n' ≤ 1001 ∧
    figB ys sum' f' t' l' ch = true ∧ ∀ j, j < N → rs'.getD ((q + j) % N) o0 = ch.getD j o0

theorem take_small (M B : Nat) (cnt : Int) (ra : Option Addr) (n : Nat) (rs : List O) (a : Option Addr) (m : Nat) (xs : List Int) (sum f t lm : Int) (s : Int) (tt : Bool) (l : Int) (w : World)
    (hW : Win w B cnt (.slice ra n n) 0 (.slice a m m) sum f t lm) (hR : RecAt w M B ra n rs) (hA : AnsAt w M B ra a m xs) (hlt : n < 1000) (hMB : M ≤ B) (hfig : figB xs sum f t lm rs = true) :
    Calls Try.prog 33 #[.pointer (some ⟨B, 0, none⟩), .agg #[.int .i64 s, .bool tt, .int .i64 l]] w fun e w' => e = .returned (.tuple #[]) ∧ TakePost M B (n + 1) 0 cnt (chronL rs 0 (s, tt, l)) w w' := by
  have hbd := fig_bounds hfig hR.1
  have hm : m ≤ 1000 := by have := fig_len hfig; have := hR.1; have := hA.1; omega
  refine (take_grow B cnt ra n rs 0 a m xs sum f t lm s tt l w hW hR.1 ?_ hlt hA.slb (fig_srt hfig) hm (by omega) (by omega) (by omega)).mono ?_
  · obtain ⟨_, h | ⟨R, h1, h2, h3, h4, h5⟩⟩ := hR
    · exact .inl h
    · exact .inr ⟨R, h1, h4, h3⟩
  · rintro e w' ⟨rfl, hS, g, gc, a', n', c', h1, h2, h3, h4⟩
    have hf := admit_law (rs := chronL rs 0 (s, tt, l)) s tt l (by rw [chron_zero]; exact List.perm_append_singleton _ _) hfig
    have hl := fig_len hf
    rw [chron_len _ _ _ (Nat.zero_le _), hR.1] at hl
    refine ⟨rfl, ⟨hS.os, hS.tape, hS.output, hS.size, fun k hk => hS.block k (by have := hW.lt; omega) (by omega)⟩, g, gc, _, a', n', c', _, _, _, _, _, h1, h2, h3, h4.1, by have := h4.1.1; omega, hf, fun j hj => chron_at0 rs _ n hR.1 j hj⟩

theorem take_big (M B p q : Nat) (cnt : Int) (ra : Option Addr) (rs : List O) (a : Option Addr) (m : Nat) (xs : List Int) (sum f t lm : Int) (s : Int) (tt : Bool) (l : Int) (w : World)
    (hW : Win w B cnt (.slice ra 1000 1000) p (.slice a m m) sum f t lm) (hR : RecAt w M B ra 1000 rs) (hA : AnsAt w M B ra a m xs) (hp : p < 1000) (hq : q = if p + 1 = 1000 then 0 else p + 1) (hMB : M ≤ B) (hfig : figB xs sum f t lm rs = true) :
    Calls Try.prog 33 #[.pointer (some ⟨B, 0, none⟩), .agg #[.int .i64 s, .bool tt, .int .i64 l]] w fun e w' => e = .returned (.tuple #[]) ∧ TakePost M B 1000 q cnt ((chronL rs p (s, tt, l)).drop 1) w w' := by
  obtain ⟨hrn, ⟨_, h⟩ | ⟨R, rfl, hMR, hRB, hO, hF⟩⟩ := hR
  · omega
  have key : ∀ w', FullPost M B R p cnt rs (s, tt, l) w w' → TakePost M B 1000 q cnt ((chronL rs p (s, tt, l)).drop 1) w w' := by
    rintro w' ⟨hB, a', n', c', ys, sum', f', t', l', h1, h2, h3, h4⟩
    have hl := fig_len h4
    rw [List.length_set, hrn] at hl
    have eq : ((p : Int) + 1) % 1000 = (q : Int) := by rw [hq]; split <;> omega
    rw [eq] at h1
    exact ⟨hB, R, 1000, _, a', n', c', ys, sum', f', t', l', h1, World.block_lt_of_cell? w' _ (h3 0 (by omega)).1, h3, h2, by have := h2.1; omega, fig_perm (chron_perm rs p _ (by omega)) h4, fun j hj => chron_at rs p _ hrn hp q hq j hj⟩
  obtain ⟨⟨es, et, el⟩, he⟩ : ∃ o, rs.getD p o0 = o := ⟨_, rfl⟩
  by_cases h0 : es = 0
  · refine (take_full0 M B R p cnt rs m xs sum f t lm s tt l es et el w a hW hp hrn he hO hF hRB hMB hMR hfig hA.slb.1 ?_ h0).mono ?_
    · intro x hx
      obtain ⟨_, ⟨h, _⟩ | ⟨A, rfl, h2, h3, h4, h5, h6⟩⟩ := hA
      · rw [h] at hx; cases hx
      · cases hx; exact ⟨h4, h5 R rfl⟩
    · rintro e w' ⟨h1, h2⟩; exact ⟨h1, key w' h2⟩
  · have hP : rs.Perm ((es, et, el) :: rs.eraseIdx p) := by
      have h := get_perm rs p (by omega)
      rw [he] at h; exact h
    have hmem := fig_mem es et el hP hfig h0
    have hpos : 0 < xs.length := List.length_pos_of_mem hmem
    obtain ⟨hxl, ⟨_, h⟩ | ⟨A, rfl, hMA, hAw, hAB, hAR, hI⟩⟩ := hA
    · omega
    by_cases hs : s = 0
    · refine (take_full1 M B R p cnt rs m xs sum f t lm s tt l es et el w A hW hp hrn he hO hF hRB hMB hMR hfig hI hxl hAw hAB (hAR R rfl) hMA h0 hs).mono ?_
      rintro e w' ⟨h1, h2⟩; exact ⟨h1, key w' h2⟩
    · refine (take_full2 M B R p cnt rs m xs sum f t lm s tt l es et el w A hW hp hrn he hO hF hRB hMB hMR hfig hI hxl hAw hAB (hAR R rfl) hMA h0 hs).mono ?_
      rintro e w' ⟨h1, h2⟩; exact ⟨h1, key w' h2⟩

theorem TakePost.from {M B N q : Nat} {cnt : Int} {ch : List O} {w w1 w' : World} (h : TakePost M B N q cnt ch w1 w') (hb : Below M w w1) : TakePost M B N q cnt ch w w' := ⟨hb.trans h.1, h.2⟩

set_option maxHeartbeats 1000000 in
/-- ZZtake does what take does -/
theorem ztake_of (M B N q : Nat) (cnt : Int) (ch : List O) (s : Int) (tt : Bool) (l : Int) (w : World) (hM : M ≤ w.heap.size)
    (h : ∀ w0, Later w w0 → Calls Try.prog 33 #[.pointer (some ⟨B, 0, none⟩), .agg #[.int .i64 s, .bool tt, .int .i64 l]] w0 fun e w' => e = .returned (.tuple #[]) ∧ TakePost M B N q cnt ch w0 w') :
    Calls Try.prog 11 #[.pointer (some ⟨B, 0, none⟩), .agg #[.int .i64 s, .bool tt, .int .i64 l]] w fun e w' => e = .returned (.tuple #[]) ∧ TakePost M B N q cnt ch w w' := by
  have H : Hid (∀ w0, Later w w0 → Calls Try.prog 33 #[.pointer (some ⟨B, 0, none⟩), .agg #[.int .i64 s, .bool tt, .int .i64 l]] w0 fun e w' => e = .returned (.tuple #[]) ∧ TakePost M B N q cnt ch w0 w') := h
  have HM : Hid (M ≤ w.heap.size) := hM
  clear h hM
  go_enter Try.func11, Try.ntmps11
  go_wp2_with (go_at_call 33; refine (H.out _ ((Later.refl w).alloc _)).mono ?_; rintro e w1 ⟨rfl, hT⟩)
  go_end0
  exact ⟨rfl, hT.from (Below.mono ((Later.refl w).alloc _) HM.out)⟩

theorem ztake_S (M B : Nat) (cnt : Int) (ra : Option Addr) (n p : Nat) (rs : List O) (a : Option Addr) (m : Nat) (xs : List Int) (sum f t lm : Int) (s : Int) (tt : Bool) (l : Int) (w : World)
    (hW : Win w B cnt (.slice ra n n) (p : Int) (.slice a m m) sum f t lm) (hR : RecAt w M B ra n rs) (hA : AnsAt w M B ra a m xs) (hp : p = 0) (hlt : n < 1000) (hMB : M ≤ B) (hfig : figB xs sum f t lm rs = true) :
    Calls Try.prog 11 #[.pointer (some ⟨B, 0, none⟩), .agg #[.int .i64 s, .bool tt, .int .i64 l]] w fun e w' => e = .returned (.tuple #[]) ∧ TakePost M B (n + 1) 0 cnt (chronL rs p (s, tt, l)) w w' := by
  subst hp
  exact ztake_of M B (n + 1) 0 cnt _ s tt l w (by have := hW.lt; omega) fun w0 hl => take_small M B cnt ra n rs a m xs sum f t lm s tt l w0 (hW.keep hl) (hR.keep hl) (hA.keep hl) hlt hMB hfig
theorem ztake_L (M B : Nat) (cnt : Int) (ra : Option Addr) (n p q : Nat) (rs : List O) (a : Option Addr) (m : Nat) (xs : List Int) (sum f t lm : Int) (s : Int) (tt : Bool) (l : Int) (w : World)
    (hW : Win w B cnt (.slice ra n n) (p : Int) (.slice a m m) sum f t lm) (hR : RecAt w M B ra n rs) (hA : AnsAt w M B ra a m xs) (hp : p < 1000) (hq : q = if p + 1 = 1000 then 0 else p + 1) (hn : n = 1000) (hMB : M ≤ B) (hfig : figB xs sum f t lm rs = true) :
    Calls Try.prog 11 #[.pointer (some ⟨B, 0, none⟩), .agg #[.int .i64 s, .bool tt, .int .i64 l]] w fun e w' => e = .returned (.tuple #[]) ∧ TakePost M B n q cnt ((chronL rs p (s, tt, l)).drop 1) w w' := by
  subst hn
  exact ztake_of M B 1000 q cnt _ s tt l w (by have := hW.lt; omega) fun w0 hl => take_big M B p q cnt ra rs a m xs sum f t lm s tt l w0 (hW.keep hl) (hR.keep hl) (hA.keep hl) hp hq hMB hfig
end Go.Proofs.Qxb6612353a
