/-
  THE PLAIN PART (no Go in sight): outcomes as triples (status, timed out, latency), the sorted latencies of the answered ones, the counts.
-/
import Derived.RowKit
namespace Go.Proofs.Qxb6612353a
open Go.RowKit

abbrev O := Int × Bool × Int

/-- failed: no answer, 429, or 500 and above -/
def failB (s : Int) : Bool := s == 0 || s == 429 || decide (500 ≤ s)
/-- the latencies of the answered ones -/
def ansL (rs : List O) : List Int := (rs.filter fun o => o.1 != 0).map fun o => o.2.2
def wsum (xs : List Int) : Int := xs.foldl (fun a x => wrap64 (a + x)) 0
def nFail (rs : List O) : Nat := rs.countP fun o => failB o.1
def nTime (rs : List O) : Nat := rs.countP fun o => o.2.1
def nLim (rs : List O) : Nat := rs.countP fun o => o.1 == 429

/-- sorted -/
def Srt (l : List Int) : Prop := l.Pairwise (· ≤ ·)
/-- insertion sort -/
def ins (x : Int) : List Int → List Int
  | [] => [x]
  | y :: r => if x ≤ y then x :: y :: r else y :: ins x r
def srt : List Int → List Int
  | [] => []
  | x :: r => ins x (srt r)

theorem ins_perm (x : Int) (l : List Int) : (ins x l).Perm (x :: l) := by
  induction l with
  | nil => exact .refl _
  | cons y r ih =>
    unfold ins
    split
    · exact .refl _
    · exact (List.Perm.cons y ih).trans (List.Perm.swap x y r)
theorem srt_perm (l : List Int) : (srt l).Perm l := by
  induction l with
  | nil => exact .refl _
  | cons x r ih => exact (ins_perm x (srt r)).trans (.cons x ih)
theorem ins_srt (x : Int) (l : List Int) (h : Srt l) : Srt (ins x l) := by
  induction l with
  | nil => simp [ins, Srt]
  | cons y r ih =>
    unfold ins
    unfold Srt at *
    rw [List.pairwise_cons] at h
    split
    · rename_i hxy
      refine List.pairwise_cons.2 ⟨fun z hz => ?_, List.pairwise_cons.2 h⟩
      rcases List.mem_cons.1 hz with rfl | hz
      · exact hxy
      · have := h.1 z hz; omega
    · rename_i hxy
      refine List.pairwise_cons.2 ⟨fun z hz => ?_, ih h.2⟩
      have hm := (ins_perm x r).mem_iff.1 hz
      rcases List.mem_cons.1 hm with rfl | hm
      · omega
      · exact h.1 z hm
theorem srt_srt (l : List Int) : Srt (srt l) := by
  induction l with
  | nil => exact List.Pairwise.nil
  | cons x r ih => exact ins_srt x _ ih

/-- two sorted lists with the same members are one -/
theorem srt_unique : ∀ {a b : List Int}, Srt a → Srt b → a.Perm b → a = b
  | [], b, _, _, h => by rw [List.nil_perm.1 h]
  | x :: a, [], _, _, h => by have := h.length_eq; simp at this
  | x :: a, y :: b, ha, hb, h => by
    unfold Srt at ha hb
    rw [List.pairwise_cons] at ha hb
    have e : x = y := by
      have h1 : x ∈ y :: b := h.mem_iff.1 (List.mem_cons_self ..)
      have h2 : y ∈ x :: a := h.mem_iff.2 (List.mem_cons_self ..)
      rcases List.mem_cons.1 h1 with e | h1
      · exact e
      · rcases List.mem_cons.1 h2 with e | h2
        · exact e.symm
        · have := ha.1 y h2; have := hb.1 x h1; omega
    subst e
    rw [srt_unique ha.2 hb.2 ((List.perm_cons x).1 h)]

theorem srt_eq {a l : List Int} (h : Srt a) (hp : a.Perm l) : a = srt l := srt_unique h (srt_srt l) (hp.trans (srt_perm l).symm)
theorem srt_congr {a b : List Int} (h : a.Perm b) : srt a = srt b := srt_unique (srt_srt a) (srt_srt b) ((srt_perm a).trans (h.trans (srt_perm b).symm))

/-- the sum with wraps does not hang on the order -/
theorem wrap_add (a x y : Int) : wrap64 (wrap64 (a + x) + y) = wrap64 (wrap64 (a + y) + x) := by unfold wrap64; omega
theorem wsum_from (xs : List Int) : ∀ a, xs.foldl (fun a x => wrap64 (a + x)) (wrap64 a) = wrap64 (a + xs.foldl (fun a x => wrap64 (a + x)) 0) := by
  induction xs with
  | nil => intro a; simp
  | cons x r ih =>
    intro a
    simp only [List.foldl_cons]
    rw [ih (wrap64 a + x), Int.zero_add, ih x]
    unfold wrap64; omega
theorem wsum_cons (x : Int) (r : List Int) : wsum (x :: r) = wrap64 (x + wsum r) := by
  unfold wsum
  simp only [List.foldl_cons]
  rw [Int.zero_add, wsum_from r x]
theorem wsum_perm {a b : List Int} (h : a.Perm b) : wsum a = wsum b := by
  induction h with
  | nil => rfl
  | cons x _ ih => rw [wsum_cons, wsum_cons, ih]
  | swap x y l => rw [wsum_cons, wsum_cons, wsum_cons, wsum_cons]; unfold wrap64; omega
  | trans _ _ ih1 ih2 => exact ih1.trans ih2
theorem wsum_snoc (l : List Int) (x : Int) : wsum (l ++ [x]) = wrap64 (wsum l + x) := by simp [wsum]
theorem wsum_wrap (l : List Int) : wrap64 (wsum l) = wsum l := by
  cases l with
  | nil => decide
  | cons x r => rw [wsum_cons]; unfold wrap64; omega

/-- are these the figures of the outcomes? -/
def figB (ans : List Int) (sum failed timedOut limited : Int) (rs : List O) : Bool :=
  decide (ans = srt (ansL rs)) && (decide (sum = wsum (srt (ansL rs))) && (decide (failed = nFail rs) && (decide (timedOut = nTime rs) && decide (limited = nLim rs))))
end Go.Proofs.Qxb6612353a
