/-
  THE GETTERS.
-/
import Derived.Test.Qxb6612353aShape
namespace Go.Proofs.Qxb6612353a
open Go.RowKit
set_option linter.unusedVariables false

theorem get13 {w : World} {B : Nat} {cnt : Int} {ra : Option Addr} {rn rc : Nat} {nxt : Int} {ans : Value} {sum f t l : Int} (h : Win w B cnt (.slice ra rn rc) nxt ans sum f t l) :
    Calls Try.prog 13 #[.pointer (some ⟨B, 0, none⟩)] w fun e w' => e = .returned (.int .i64 cnt) ∧ w = w' := by
  have hc := h.1
  clear h
  go_enter Try.func13, Try.ntmps13
  go_wp2
  go_ret
  exact ⟨rfl, rfl⟩

theorem get14 {w : World} {B : Nat} {cnt : Int} {ra : Option Addr} {rn rc : Nat} {nxt : Int} {ans : Value} {sum f t l : Int} (h : Win w B cnt (.slice ra rn rc) nxt ans sum f t l) :
    Calls Try.prog 14 #[.pointer (some ⟨B, 0, none⟩)] w fun e w' => e = .returned (.int .i64 nxt) ∧ w = w' := by
  have hc := h.2.2.1
  clear h
  go_enter Try.func14, Try.ntmps14
  go_wp2
  go_ret
  exact ⟨rfl, rfl⟩

theorem get17 {w : World} {B : Nat} {cnt : Int} {ra : Option Addr} {rn rc : Nat} {nxt : Int} {ans : Value} {sum f t l : Int} (h : Win w B cnt (.slice ra rn rc) nxt ans sum f t l) :
    Calls Try.prog 17 #[.pointer (some ⟨B, 0, none⟩)] w fun e w' => e = .returned (.slice ra rn rc) ∧ w = w' := by
  have hc := h.2.1
  clear h
  go_enter Try.func17, Try.ntmps17
  go_wp2
  go_ret
  exact ⟨rfl, rfl⟩

theorem get19 {w : World} {B : Nat} {cnt : Int} {ra : Option Addr} {rn rc : Nat} {nxt : Int} {ans : Value} {sum f t l : Int} (h : Win w B cnt (.slice ra rn rc) nxt ans sum f t l) :
    Calls Try.prog 19 #[.pointer (some ⟨B, 0, none⟩)] w fun e w' => e = .returned (.int .i64 sum) ∧ w = w' := by
  have hc := h.2.2.2.2.1
  clear h
  go_enter Try.func19, Try.ntmps19
  go_wp2
  go_ret
  exact ⟨rfl, rfl⟩

theorem get20 {w : World} {B : Nat} {cnt : Int} {ra : Option Addr} {rn rc : Nat} {nxt : Int} {ans : Value} {sum f t l : Int} (h : Win w B cnt (.slice ra rn rc) nxt ans sum f t l) :
    Calls Try.prog 20 #[.pointer (some ⟨B, 0, none⟩)] w fun e w' => e = .returned (.int .i64 f) ∧ w = w' := by
  have hc := h.2.2.2.2.2.1
  clear h
  go_enter Try.func20, Try.ntmps20
  go_wp2
  go_ret
  exact ⟨rfl, rfl⟩

theorem get21 {w : World} {B : Nat} {cnt : Int} {ra : Option Addr} {rn rc : Nat} {nxt : Int} {ans : Value} {sum f t l : Int} (h : Win w B cnt (.slice ra rn rc) nxt ans sum f t l) :
    Calls Try.prog 21 #[.pointer (some ⟨B, 0, none⟩)] w fun e w' => e = .returned (.int .i64 t) ∧ w = w' := by
  have hc := h.2.2.2.2.2.2.1
  clear h
  go_enter Try.func21, Try.ntmps21
  go_wp2
  go_ret
  exact ⟨rfl, rfl⟩

theorem get22 {w : World} {B : Nat} {cnt : Int} {ra : Option Addr} {rn rc : Nat} {nxt : Int} {ans : Value} {sum f t l : Int} (h : Win w B cnt (.slice ra rn rc) nxt ans sum f t l) :
    Calls Try.prog 22 #[.pointer (some ⟨B, 0, none⟩)] w fun e w' => e = .returned (.int .i64 l) ∧ w = w' := by
  have hc := h.2.2.2.2.2.2.2.1
  clear h
  go_enter Try.func22, Try.ntmps22
  go_wp2
  go_ret
  exact ⟨rfl, rfl⟩
end Go.Proofs.Qxb6612353a
