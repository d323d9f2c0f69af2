/-
  THE HEAD OF THE CUT, READ ONCE. Three closed facts of a row read the signs of the program's head ('initOrder'): the kernel unfolds the reading of a long string sign by sign in gigabytes. Here the head is given as a list of signs, by one equation, and the three facts are read off that list.
-/
import Derived.Test.Qxb6001442aRows
import Derived.JoinedOf
import Derived.KernelRfl
namespace Go.Proofs.Qxb6001442a
open Go

def headSigns : List Nat :=
  [104, 97, 114, 110, 101, 115, 115, 32, 49, 53, 52, 100, 99, 53, 55, 54, 98, 57, 57, 54, 102, 57, 102, 52, 99, 101, 54, 48, 49, 49, 54, 51, 56, 56, 51, 51, 99, 99, 54, 57, 48, 50, 48, 99, 100, 56, 54, 54, 101, 100, 101, 51, 97, 49, 101, 53, 51, 99, 99, 57, 98, 99, 51, 53, 97, 57, 49, 97, 102, 57, 101, 97, 32, 99, 117, 116, 32, 97, 116, 32, 101, 120, 97, 109, 112, 108, 101, 46, 99, 111, 109, 47, 115, 116, 97, 107, 101, 98, 111, 111, 107, 47, 115, 116, 97, 107, 101, 98, 111, 111, 107, 47, 122, 122, 108, 97, 119, 115, 95, 98, 111, 111, 107, 95, 98, 49, 46, 70, 110, 83, 117, 109, 73, 115, 65, 100, 100, 105, 116, 105, 118, 101, 32, 101, 120, 97, 109, 112, 108, 101, 46, 99, 111, 109, 47, 115, 116, 97, 107, 101, 98, 111, 111, 107, 47, 115, 116, 97, 107, 101, 98, 111, 111, 107, 47, 122, 122, 108, 97, 119, 115, 95, 98, 111, 111, 107, 95, 98, 49, 46, 70, 110, 83, 117, 109, 75, 101, 101, 112, 115, 80, 97, 121, 111, 117, 116, 66, 97, 108, 97, 110, 99, 101]
theorem head_is : Try.prog.initOrder = String.ofList (headSigns.map Char.ofNat) := by kernel_rfl
theorem head_list : Try.prog.initOrder.toList = headSigns.map Char.ofNat := by rw [head_is, String.toList_ofList]
/-- The head's words behind the harness's own: 'cut', and what it was cut at. -/
theorem words_list : behindMainWord (wordsSigns (headSigns.map Char.ofNat)) = ['c', 'u', 't'] :: wordsSigns ((headSigns.drop 77).map Char.ofNat) := by kernel_rfl
theorem words_are : behindMainWord (wordsSigns Try.prog.initOrder.toList) = ['c', 'u', 't'] :: wordsSigns ((headSigns.drop 77).map Char.ofNat) := by rw [head_list, words_list]

/-! What follows is said of whatever program, so that the kernel does not lay the program open. -/
theorem strip_cut (rest : List (List Char)) : stripLifts liftWords (['c', 'u', 't'] :: rest) = ([], ['c', 'u', 't'] :: rest) := by kernel_rfl
theorem make_of (P : Program) (rest : List (List Char)) (h : behindMainWord (wordsSigns P.initOrder.toList) = ['c', 'u', 't'] :: rest) : P.make = some .cut := by
  unfold Program.make; rw [h]; kernel_rfl
theorem enter_of (P : Program) (rest : List (List Char)) (h : behindMainWord (wordsSigns P.initOrder.toList) = ['c', 'u', 't'] :: rest) (h1 : P.laysLater = false) (h2 : P.bearsReflect = false)
    (h3 : P.doorFits [] = true) : P.mayEnter = true := by
  unfold Program.mayEnter; rw [h]
  simp only [strip_cut, h1, h2, h3]
  kernel_rfl
theorem lifts_of (P : Program) (rest : List (List Char)) (h : behindMainWord (wordsSigns P.initOrder.toList) = ['c', 'u', 't'] :: rest) : P.liftsFinal = false := by
  unfold Program.liftsFinal Program.headLifts; rw [h]
  simp only [strip_cut]
  kernel_rfl

theorem may_enter : Try.prog.mayEnter = true := enter_of _ _ words_are (by kernel_rfl) (by kernel_rfl) (by kernel_rfl)
theorem lifts_final : Try.prog.liftsFinal = false := lifts_of _ _ words_are
theorem make_is : Try.prog.make = some .cut := make_of _ _ words_are
theorem both {a b : Bool} (h : a = true) (h' : b = true) : (a && b) = true := by rw [h, h']; rfl
end Go.Proofs.Qxb6001442a
