/-
  Seat b6002668a (flumeward): three closed facts of the rows that hang on the long head of this seat's translation (eight roots). Read off at once they want some 10 GB each in the kernel; here the head's signs are laid once, and the facts are read off those.
-/
import Derived.Test.Qxb6002668aRows
import Derived.WalkKit
import Derived.ProofKit
namespace Go.Proofs.Qxb6002668a

set_option maxRecDepth 100000 in
/-- The head's signs, one by one. -/
def headSigns : { cs : List Char // Try.prog.initOrder = String.ofList cs } := ⟨_, rfl⟩

theorem head_toList {P : Program} {cs : List Char} (h : P.initOrder = String.ofList cs) : P.initOrder.toList = cs := by rw [h]; exact String.toList_ofList

theorem make_of {P : Program} {cs : List Char} (h : P.initOrder = String.ofList cs) (k : (behindMainWord (wordsSigns cs)).head? = some "cut".toList) : P.make = some .cut := by
  unfold Program.make
  rw [head_toList h]
  cases e : behindMainWord (wordsSigns cs) with
  | nil => rw [e] at k; cases k
  | cons c rest =>
    rw [e] at k
    simp only [List.head?_cons, Option.some.injEq] at k
    subst k
    rfl

theorem liftsFinal_of {P : Program} {cs : List Char} (h : P.initOrder = String.ofList cs) (k : (behindMainWord (wordsSigns cs)).head? = some "cut".toList) (k2 : (stripLifts liftWords (behindMainWord (wordsSigns cs))).1 = []) : P.liftsFinal = false := by
  unfold Program.liftsFinal Program.headLifts
  rw [head_toList h]
  simp only [k, k2]
  simp

theorem mayEnter_of {P : Program} {cs : List Char} (h : P.initOrder = String.ofList cs) (k2 : (stripLifts liftWords (behindMainWord (wordsSigns cs))).1 = [])
    (k3 : (stripLifts liftWords (behindMainWord (wordsSigns cs))).2.head? = some "cut".toList) (k4 : P.laysLater = false) (k5 : P.bearsReflect = false) (k6 : P.doorFits [] = true) : P.mayEnter = true := by
  unfold Program.mayEnter
  rw [head_toList h]
  cases e : behindMainWord (wordsSigns cs) with
  | nil => rw [e] at k3; cases k3
  | cons c rest =>
    rw [e] at k2 k3
    simp only [k2, k3, k4, k5, k6]
    simp

set_option maxRecDepth 100000 in
theorem head_cut : (behindMainWord (wordsSigns headSigns.1)).head? = some "cut".toList := by kernel_rfl
set_option maxRecDepth 100000 in
theorem head_lifts : (stripLifts liftWords (behindMainWord (wordsSigns headSigns.1))).1 = [] := by kernel_rfl
set_option maxRecDepth 100000 in
theorem head_rest : (stripLifts liftWords (behindMainWord (wordsSigns headSigns.1))).2.head? = some "cut".toList := by kernel_rfl

theorem fact_make : Try.prog.make = some .cut := make_of headSigns.2 head_cut
theorem fact_liftsFinal : Try.prog.liftsFinal = false := liftsFinal_of headSigns.2 head_cut head_lifts
theorem fact_mayEnter : Try.prog.mayEnter = true := mayEnter_of headSigns.2 head_lifts head_rest (by kernel_rfl) (by kernel_rfl) (by kernel_rfl)

theorem and_tt {a b : Bool} (h : a = true) (k : b = true) : (a && b) = true := by rw [h, k]; rfl
end Go.Proofs.Qxb6002668a
