/-
  THE WALKS OF THE CALLEES: 'deltas[uint64]', 'deltas[int64]', 'Gaps', 'Differences', and the shared parts of the four laws.
-/
import Derived.Test.Qxb6609219aProg
import Derived.WalkKit
import Derived.ProofKit
import Derived.WalkSpells
import Derived.Below
namespace Go.Proofs.Qxb6609219a
open Go.RowKit
set_option linter.unusedVariables false

theorem Try.info25 : (Try.prog.info? 25).map (fun i => (i.zero, i.size, i.bytes)) = some (some (.int .u64 0), 1, 8) := by kernel_rfl
theorem Try.info2 : (Try.prog.info? 2).map (fun i => (i.zero, i.size, i.bytes)) = some (some (.int .i64 0), 1, 8) := by kernel_rfl

/-- the value ahead of place k -/
def prevOf (xs : List Int) (k : Nat) : Int := if k = 0 then 0 else xs.getD (k - 1) 0
/-- the gap at place k, as a uint64 -/
def gapOf (xs : List Int) (k : Nat) : Int := IntKind.u64.wrap (xs.getD k 0 - prevOf xs k)
/-- the gap at place k, read as an int64 -/
def difOf (xs : List Int) (k : Nat) : Int := wrap64 (gapOf xs k)

theorem prevOf_succ (xs : List Int) (k : Nat) (h : k < xs.length) : prevOf xs (k + 1) = xs[k] := by simp [prevOf, h]

theorem rel_step {k : IntKind} {w wr : World} {B n t e : Nat} {ys : List Int} {f : Nat → Int} (hys : ys.length = n) (ht : t < n)
    (hf : ∀ j, j < t → ys.getD j 0 = f j) (hown : wr.ownsRow B e 1 (.slice (some ⟨B, 0, none⟩) n n) n (ys.map (Value.int k))) (hbel : Below B w wr) (v : Int) (hv : v = f t) :
    ∃ zs : List Int, zs.length = n ∧ (∀ j, j < t + 1 → zs.getD j 0 = f j) ∧ (wr.setCell ⟨B, t, none⟩ (.int k v)).ownsRow B e 1 (.slice (some ⟨B, 0, none⟩) n n) n (zs.map (Value.int k)) ∧ Below B w (wr.setCell ⟨B, t, none⟩ (.int k v)) := by
  refine ⟨ys.set t v, by simpa using hys, ?_, ?_, hbel.setCell (by simp) _⟩
  · intro j hj
    by_cases e : j = t
    · subst e; simp [hys, ht, hv]
    · have := hf j (by omega)
      simpa [List.getD, List.getElem?_set, show ¬ t = j from fun h => e h.symm] using this
  · have := (hown.stored t (.int k v)).1
    rwa [← List.map_set] at this

set_option maxHeartbeats 800000 in
set_option maxRecDepth 1000000 in
theorem deltasU_some (b off n cap : Nat) (xs : List Int) (w : World) (hn : xs.length = n) (hle : n ≤ 131072) (hb : b < w.heap.size)
    (hc : ∀ j, j < n → w.cell? ⟨b, off + j, none⟩ = some (.int .u64 (xs.getD j 0))) :
    Calls Try.prog 13 #[.slice (some ⟨b, off, none⟩) n cap] w fun e w' => e = .returned (.slice (some ⟨w.heap.size, 0, none⟩) n n) ∧
      (∀ j, j < n → w'.cell? ⟨w.heap.size, j, none⟩ = some (.int .u64 (gapOf xs j))) ∧ Below w.heap.size w w' ∧ w.heap.size < w'.heap.size := by
  obtain ⟨i0, hi, hz0, hz1, hz2⟩ := info_parts Try.info25
  go_enter Try.func13, Try.ntmps13
  go_wp2_with (at_make; refine wpList_make_full _ rfl _ _ 22 rfl w.heap.size 25 i0 (.int .u64 0) 1 Try.underlying22 hi hz0 hz1 _ _ _ _ n rfl rfl rfl rfl ?b2 ?b3 (Nat.le_refl _) ?_)
  case b2 => rw [hz2]; omega
  case b3 => unfold maxLen; omega
  intro w0 hown0 hgrow0
  go_wp2
  go_loopw [4, 12] (fun p i wr => ∃ (k : Nat) (ys : List Int), k ≤ n ∧ i = .int .i64 k ∧ p = .int .u64 (prevOf xs k) ∧ ys.length = n ∧ (∀ j, j < k → ys.getD j 0 = gapOf xs j) ∧
      wr.ownsRow w.heap.size 25 1 (.slice (some ⟨w.heap.size, 0, none⟩) n n) n (ys.map (Value.int .u64)) ∧ Below w.heap.size w wr)
    (fun _ i _ => n - (intOf i).toNat)
  case atStart =>
    refine ⟨0, List.replicate n 0, Nat.zero_le _, rfl, rfl, by simp, fun j hj => absurd hj (Nat.not_lt_zero _), ?_, (Below.refl _ _).grown hgrow0 (Nat.le_refl _) (fun k h => by cases h)⟩
    rw [toList_madeCells_one] at hown0
    simpa using hown0
  case round =>
    obtain ⟨k, ys, hk, rfl, rfl, hys, hf, hown, hbel⟩ := hrel
    by_cases hlt : k < n
    · have hcx : wr.cell? ⟨b, off + k, none⟩ = some (.int .u64 (xs.getD k 0)) := (hbel.cell (by exact hb)).trans (hc k (by omega))
      have hco : wr.cell? ⟨w.heap.size, k, none⟩ = some (.int .u64 (ys.getD k 0)) := by
        rw [hown.cellAt k (by omega)]; simp [List.getD, hys, hlt]
      have hfo := hown.frozenAt k
      have HS : Hid (∃ zs : List Int, zs.length = n ∧ (∀ j, j < k + 1 → zs.getD j 0 = gapOf xs j) ∧ (wr.setCell ⟨w.heap.size, k, none⟩ (.int .u64 (IntKind.u64.wrap (xs.getD k 0 - prevOf xs k)))).ownsRow w.heap.size 25 1 (.slice (some ⟨w.heap.size, 0, none⟩) n n) n (zs.map (Value.int .u64)) ∧ Below w.heap.size w (wr.setCell ⟨w.heap.size, k, none⟩ (.int .u64 (IntKind.u64.wrap (xs.getD k 0 - prevOf xs k))))) :=
        rel_step hys hlt hf hown hbel _ rfl
      have hps := prevOf_succ xs k (by omega)
      have hg : xs.getD k 0 = xs[k] := by simp [hn, hlt]
      have HP : Hid (prevOf xs (k + 1) = xs[k]) := hps
      have HG : Hid (xs.getD k 0 = xs[k]) := hg
      clear hf hown hps hg hc hown0 hgrow0
      go_wp2
      go_roundw
      case rel =>
        obtain ⟨zs, h1, h2, h3, h4⟩ := HS.out
        rw [HG.out] at h3 h4
        exact ⟨k + 1, zs, by omega, by go_num, by rw [HP.out], h1, h2, h3, h4⟩
      case measure => simp [intOf]; omega
    · obtain rfl : k = n := by omega
      go_wp2
      go_ret
      refine ⟨rfl, fun j hj => ?_, hbel, (hown.lt _ rfl).2⟩
      rw [hown.cellAt j (by omega)]
      have := hf j hj
      simp [List.getD, hys, hj] at this
      simp [hys, hj, this]

set_option maxHeartbeats 800000 in
set_option maxRecDepth 1000000 in
theorem deltasI_some (b off n cap : Nat) (xs : List Int) (w : World) (hn : xs.length = n) (hle : n ≤ 131072) (hb : b < w.heap.size)
    (hc : ∀ j, j < n → w.cell? ⟨b, off + j, none⟩ = some (.int .u64 (xs.getD j 0))) :
    Calls Try.prog 14 #[.slice (some ⟨b, off, none⟩) n cap] w fun e w' => e = .returned (.slice (some ⟨w.heap.size, 0, none⟩) n n) ∧
      (∀ j, j < n → w'.cell? ⟨w.heap.size, j, none⟩ = some (.int .i64 (difOf xs j))) ∧ Below w.heap.size w w' ∧ w.heap.size < w'.heap.size := by
  obtain ⟨i0, hi, hz0, hz1, hz2⟩ := info_parts Try.info2
  go_enter Try.func14, Try.ntmps14
  go_wp2_with (at_make; refine wpList_make_full _ rfl _ _ 27 rfl w.heap.size 2 i0 (.int .i64 0) 1 Try.underlying27 hi hz0 hz1 _ _ _ _ n rfl rfl rfl rfl ?b2 ?b3 (Nat.le_refl _) ?_)
  case b2 => rw [hz2]; omega
  case b3 => unfold maxLen; omega
  intro w0 hown0 hgrow0
  go_wp2
  go_loopw [4, 12] (fun p i wr => ∃ (k : Nat) (ys : List Int), k ≤ n ∧ i = .int .i64 k ∧ p = .int .u64 (prevOf xs k) ∧ ys.length = n ∧ (∀ j, j < k → ys.getD j 0 = difOf xs j) ∧
      wr.ownsRow w.heap.size 2 1 (.slice (some ⟨w.heap.size, 0, none⟩) n n) n (ys.map (Value.int .i64)) ∧ Below w.heap.size w wr)
    (fun _ i _ => n - (intOf i).toNat)
  case atStart =>
    refine ⟨0, List.replicate n 0, Nat.zero_le _, rfl, rfl, by simp, fun j hj => absurd hj (Nat.not_lt_zero _), ?_, (Below.refl _ _).grown hgrow0 (Nat.le_refl _) (fun k h => by cases h)⟩
    rw [toList_madeCells_one] at hown0
    simpa using hown0
  case round =>
    obtain ⟨k, ys, hk, rfl, rfl, hys, hf, hown, hbel⟩ := hrel
    by_cases hlt : k < n
    · have hcx : wr.cell? ⟨b, off + k, none⟩ = some (.int .u64 (xs.getD k 0)) := (hbel.cell (by exact hb)).trans (hc k (by omega))
      have hco : wr.cell? ⟨w.heap.size, k, none⟩ = some (.int .i64 (ys.getD k 0)) := by
        rw [hown.cellAt k (by omega)]; simp [List.getD, hys, hlt]
      have hfo := hown.frozenAt k
      have HS : Hid (∃ zs : List Int, zs.length = n ∧ (∀ j, j < k + 1 → zs.getD j 0 = difOf xs j) ∧ (wr.setCell ⟨w.heap.size, k, none⟩ (.int .i64 (wrap64 (IntKind.u64.wrap (xs.getD k 0 - prevOf xs k))))).ownsRow w.heap.size 2 1 (.slice (some ⟨w.heap.size, 0, none⟩) n n) n (zs.map (Value.int .i64)) ∧ Below w.heap.size w (wr.setCell ⟨w.heap.size, k, none⟩ (.int .i64 (wrap64 (IntKind.u64.wrap (xs.getD k 0 - prevOf xs k)))))) :=
        rel_step hys hlt hf hown hbel _ rfl
      have hps := prevOf_succ xs k (by omega)
      have hg : xs.getD k 0 = xs[k] := by simp [hn, hlt]
      have HP : Hid (prevOf xs (k + 1) = xs[k]) := hps
      have HG : Hid (xs.getD k 0 = xs[k]) := hg
      clear hf hown hps hg hc hown0 hgrow0
      go_wp2
      go_roundw
      case rel =>
        obtain ⟨zs, h1, h2, h3, h4⟩ := HS.out
        rw [HG.out] at h3 h4
        exact ⟨k + 1, zs, by omega, by go_num, by rw [HP.out], h1, h2, h3, h4⟩
      case measure => simp [intOf]; omega
    · obtain rfl : k = n := by omega
      go_wp2
      go_ret
      refine ⟨rfl, fun j hj => ?_, hbel, (hown.lt _ rfl).2⟩
      rw [hown.cellAt j (by omega)]
      have := hf j hj
      simp [List.getD, hys, hj] at this
      simp [hys, hj, this]

set_option maxHeartbeats 800000 in
set_option maxRecDepth 1000000 in
theorem deltasU_nil (w : World) :
    Calls Try.prog 13 #[.slice none 0 0] w fun e w' => e = .returned (.slice (some ⟨w.heap.size, 0, none⟩) 0 0) ∧ Below w.heap.size w w' ∧ w.heap.size < w'.heap.size := by
  obtain ⟨i0, hi, hz0, hz1, hz2⟩ := info_parts Try.info25
  go_enter Try.func13, Try.ntmps13
  go_wp2_with (at_make; refine wpList_make_full _ rfl _ _ 22 rfl w.heap.size 25 i0 (.int .u64 0) 1 Try.underlying22 hi hz0 hz1 _ _ _ _ 0 rfl rfl rfl rfl ?b2 ?b3 (Nat.le_refl _) ?_)
  case b2 => rw [hz2]; omega
  case b3 => unfold maxLen; omega
  intro w0 hown0 hgrow0
  go_wp2
  refine wp_loop_rounds 1 ?_
  rw [rounds_succ]
  go_wp2
  go_ret
  exact ⟨rfl, (Below.refl _ _).grown hgrow0 (Nat.le_refl _) (fun k h => by cases h), (hown0.lt _ rfl).2⟩

set_option maxHeartbeats 800000 in
set_option maxRecDepth 1000000 in
theorem deltasI_nil (w : World) :
    Calls Try.prog 14 #[.slice none 0 0] w fun e w' => e = .returned (.slice (some ⟨w.heap.size, 0, none⟩) 0 0) ∧ Below w.heap.size w w' ∧ w.heap.size < w'.heap.size := by
  obtain ⟨i0, hi, hz0, hz1, hz2⟩ := info_parts Try.info2
  go_enter Try.func14, Try.ntmps14
  go_wp2_with (at_make; refine wpList_make_full _ rfl _ _ 27 rfl w.heap.size 2 i0 (.int .i64 0) 1 Try.underlying27 hi hz0 hz1 _ _ _ _ 0 rfl rfl rfl rfl ?b2 ?b3 (Nat.le_refl _) ?_)
  case b2 => rw [hz2]; omega
  case b3 => unfold maxLen; omega
  intro w0 hown0 hgrow0
  go_wp2
  refine wp_loop_rounds 1 ?_
  rw [rounds_succ]
  go_wp2
  go_ret
  exact ⟨rfl, (Below.refl _ _).grown hgrow0 (Nat.le_refl _) (fun k h => by cases h), (hown0.lt _ rfl).2⟩

/-- WHAT A SLICE OF uint64 OF THE LAW's OWN IS: nil, or it leads to cells that hold xs. -/
def RowIn (w : World) (a : Option Addr) (n cap : Nat) (xs : List Int) : Prop :=
  xs.length = n ∧ ((a = none ∧ n = 0 ∧ cap = 0) ∨ ∃ b off, a = some ⟨b, off, none⟩ ∧ b < w.heap.size ∧ ∀ j, j < n → w.cell? ⟨b, off + j, none⟩ = some (.int .u64 (xs.getD j 0)))

theorem gaps_any (a : Option Addr) (n cap : Nat) (xs : List Int) (w : World) (h : RowIn w a n cap xs) (hle : n ≤ 131072) :
    Calls Try.prog 8 #[.slice a n cap] w fun e w' => e = .returned (.slice (some ⟨w.heap.size, 0, none⟩) n n) ∧
      (∀ j, j < n → w'.cell? ⟨w.heap.size, j, none⟩ = some (.int .u64 (gapOf xs j))) ∧ Below w.heap.size w w' ∧ w.heap.size < w'.heap.size := by
  obtain ⟨hn, ⟨rfl, rfl, rfl⟩ | ⟨b, off, rfl, hb, hc⟩⟩ := h
  · go_enter Try.func8, Try.ntmps8
    go_wp2_with (go_at_call 13; refine (deltasU_nil _).mono ?_; rintro e w' ⟨rfl, hbel, hsz⟩)
    go_ret
    exact ⟨rfl, fun j hj => absurd hj (Nat.not_lt_zero _), hbel, hsz⟩
  · go_enter Try.func8, Try.ntmps8
    go_wp2_with (go_at_call 13; refine (deltasU_some b off n cap xs _ hn hle hb hc).mono ?_; rintro e w' ⟨rfl, hcs, hbel, hsz⟩)
    go_ret
    exact ⟨rfl, hcs, hbel, hsz⟩

theorem differences_any (a : Option Addr) (n cap : Nat) (xs : List Int) (w : World) (h : RowIn w a n cap xs) (hle : n ≤ 131072) :
    Calls Try.prog 11 #[.slice a n cap] w fun e w' => e = .returned (.slice (some ⟨w.heap.size, 0, none⟩) n n) ∧
      (∀ j, j < n → w'.cell? ⟨w.heap.size, j, none⟩ = some (.int .i64 (difOf xs j))) ∧ Below w.heap.size w w' ∧ w.heap.size < w'.heap.size := by
  obtain ⟨hn, ⟨rfl, rfl, rfl⟩ | ⟨b, off, rfl, hb, hc⟩⟩ := h
  · go_enter Try.func11, Try.ntmps11
    go_wp2_with (go_at_call 14; refine (deltasI_nil _).mono ?_; rintro e w' ⟨rfl, hbel, hsz⟩)
    go_ret
    exact ⟨rfl, fun j hj => absurd hj (Nat.not_lt_zero _), hbel, hsz⟩
  · go_enter Try.func11, Try.ntmps11
    go_wp2_with (go_at_call 14; refine (deltasI_some b off n cap xs _ hn hle hb hc).mono ?_; rintro e w' ⟨rfl, hcs, hbel, hsz⟩)
    go_ret
    exact ⟨rfl, hcs, hbel, hsz⟩
end Go.Proofs.Qxb6609219a
