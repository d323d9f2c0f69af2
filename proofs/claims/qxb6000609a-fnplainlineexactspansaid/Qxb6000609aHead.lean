/-
  THE HEAD OF THE CUT, READ ONCE. Three closed facts of a row read the signs of the program's head ('initOrder'): the kernel unfolds the reading of a long string sign by sign in gigabytes. Here the head is given as a list of signs, by one equation, and the three facts are read off that list.
-/
import Derived.Test.Qxb6000609aRows
import Derived.JoinedOf
import Derived.KernelRfl
namespace Go.Proofs.Qxb6000609a
open Go

def headSigns : List Nat :=
  [104, 97, 114, 110, 101, 115, 115, 32, 51, 52, 102, 51, 100, 57, 51, 50, 97, 102, 102, 101, 102, 57, 48, 97, 55, 48, 100, 100, 48, 100, 56, 56, 50, 54, 100, 56, 51, 50, 55, 102, 49, 97, 101, 54, 52, 98, 101, 53, 51, 102, 50, 54, 49, 99, 99, 50, 98, 52, 52, 49, 100, 51, 97, 56, 48, 100, 55, 56, 56, 98, 100, 101, 32, 99, 117, 116, 32, 97, 116, 32, 101, 120, 97, 109, 112, 108, 101, 46, 99, 111, 109, 47, 118, 97, 108, 117, 101, 115, 45, 111, 118, 101, 114, 45, 108, 97, 121, 101, 114, 115, 47, 118, 97, 108, 117, 101, 115, 45, 111, 118, 101, 114, 45, 108, 97, 121, 101, 114, 115, 47, 122, 122, 108, 97, 119, 115, 95, 114, 111, 111, 116, 95, 98, 49, 46, 70, 110, 80, 108, 97, 105, 110, 76, 105, 110, 101, 69, 120, 97, 99, 116, 83, 112, 97, 110, 32, 101, 120, 97, 109, 112, 108, 101, 46, 99, 111, 109, 47, 118, 97, 108, 117, 101, 115, 45, 111, 118, 101, 114, 45, 108, 97, 121, 101, 114, 115, 47, 118, 97, 108, 117, 101, 115, 45, 111, 118, 101, 114, 45, 108, 97, 121, 101, 114, 115, 47, 122, 122, 108, 97, 119, 115, 95, 114, 111, 111, 116, 95, 98, 49, 46, 70, 110, 80, 108, 97, 105, 110, 76, 105, 110, 101, 73, 100, 101, 109, 112, 111, 116, 101, 110, 116, 32, 101, 120, 97, 109, 112, 108, 101, 46, 99, 111, 109, 47, 118, 97, 108, 117, 101, 115, 45, 111, 118, 101, 114, 45, 108, 97, 121, 101, 114, 115, 47, 118, 97, 108, 117, 101, 115, 45, 111, 118, 101, 114, 45, 108, 97, 121, 101, 114, 115, 47, 122, 122, 108, 97, 119, 115, 95, 114, 111, 111, 116, 95, 98, 49, 46, 70, 110, 80, 108, 97, 105, 110, 76, 105, 110, 101, 70, 108, 111, 119, 78, 97, 114, 114, 111, 119, 115, 32, 101, 120, 97, 109, 112, 108, 101, 46, 99, 111, 109, 47, 118, 97, 108, 117, 101, 115, 45, 111, 118, 101, 114, 45, 108, 97, 121, 101, 114, 115, 47, 118, 97, 108, 117, 101, 115, 45, 111, 118, 101, 114, 45, 108, 97, 121, 101, 114, 115, 47, 122, 122, 108, 97, 119, 115, 95, 114, 111, 111, 116, 95, 98, 49, 46, 70, 110, 83, 107, 105, 112, 83, 112, 97, 99, 101, 69, 120, 97, 99, 116, 32, 101, 120, 97, 109, 112, 108, 101, 46, 99, 111, 109, 47, 118, 97, 108, 117, 101, 115, 45, 111, 118, 101, 114, 45, 108, 97, 121, 101, 114, 115, 47, 118, 97, 108, 117, 101, 115, 45, 111, 118, 101, 114, 45, 108, 97, 121, 101, 114, 115, 47, 122, 122, 108, 97, 119, 115, 95, 114, 111, 111, 116, 95, 98, 49, 46, 70, 110, 83, 107, 105, 112, 83, 112, 97, 99, 101, 73, 100, 101, 109, 112, 111, 116, 101, 110, 116, 32, 101, 120, 97, 109, 112, 108, 101, 46, 99, 111, 109, 47, 118, 97, 108, 117, 101, 115, 45, 111, 118, 101, 114, 45, 108, 97, 121, 101, 114, 115, 47, 118, 97, 108, 117, 101, 115, 45, 111, 118, 101, 114, 45, 108, 97, 121, 101, 114, 115, 47, 122, 122, 108, 97, 119, 115, 95, 114, 111, 111, 116, 95, 98, 49, 46, 70, 110, 65, 112, 112, 101, 110, 100, 83, 116, 114, 105, 110, 103, 82, 111, 117, 110, 100, 84, 114, 105, 112, 32, 101, 120, 97, 109, 112, 108, 101, 46, 99, 111, 109, 47, 118, 97, 108, 117, 101, 115, 45, 111, 118, 101, 114, 45, 108, 97, 121, 101, 114, 115, 47, 118, 97, 108, 117, 101, 115, 45, 111, 118, 101, 114, 45, 108, 97, 121, 101, 114, 115, 47, 122, 122, 108, 97, 119, 115, 95, 114, 111, 111, 116, 95, 98, 49, 46, 70, 110, 65, 112, 112, 101, 110, 100, 83, 116, 114, 105, 110, 103, 75, 101, 101, 112, 115, 80, 114, 101, 102, 105, 120, 32, 101, 120, 97, 109, 112, 108, 101, 46, 99, 111, 109, 47, 118, 97, 108, 117, 101, 115, 45, 111, 118, 101, 114, 45, 108, 97, 121, 101, 114, 115, 47, 118, 97, 108, 117, 101, 115, 45, 111, 118, 101, 114, 45, 108, 97, 121, 101, 114, 115, 47, 122, 122, 108, 97, 119, 115, 95, 114, 111, 111, 116, 95, 98, 49, 46, 70, 110, 65, 112, 112, 101, 110, 100, 83, 116, 114, 105, 110, 103, 67, 111, 110, 99, 97, 116]
theorem head_is : Try.prog.initOrder = String.ofList (headSigns.map Char.ofNat) := by kernel_rfl
theorem head_list : Try.prog.initOrder.toList = headSigns.map Char.ofNat := by rw [head_is, String.toList_ofList]
/-- The head's words behind the harness's own: 'cut', and what it was cut at. -/
theorem words_list : behindMainWord (wordsSigns (headSigns.map Char.ofNat)) = ['c', 'u', 't'] :: wordsSigns ((headSigns.drop 77).map Char.ofNat) := by kernel_rfl
theorem words_are : behindMainWord (wordsSigns Try.prog.initOrder.toList) = ['c', 'u', 't'] :: wordsSigns ((headSigns.drop 77).map Char.ofNat) := by rw [head_list, words_list]

/-! What follows is said of whatever program, so that the kernel does not lay the program open. -/
theorem strip_cut (rest : List (List Char)) : stripLifts liftWords (['c', 'u', 't'] :: rest) = ([], ['c', 'u', 't'] :: rest) := by kernel_rfl
theorem make_of (P : Program) (rest : List (List Char)) (h : behindMainWord (wordsSigns P.initOrder.toList) = ['c', 'u', 't'] :: rest) : P.make = some .cut := by
  unfold Program.make; rw [h]; kernel_rfl
theorem enter_of (P : Program) (rest : List (List Char)) (h : behindMainWord (wordsSigns P.initOrder.toList) = ['c', 'u', 't'] :: rest) (h1 : P.laysLater = false) (h2 : P.bearsReflect = false)
    (h3 : P.doorFits [] = true) : P.mayEnter = true := by
  unfold Program.mayEnter; rw [h]
  simp only [strip_cut, h1, h2, h3]
  kernel_rfl
theorem lifts_of (P : Program) (rest : List (List Char)) (h : behindMainWord (wordsSigns P.initOrder.toList) = ['c', 'u', 't'] :: rest) : P.liftsFinal = false := by
  unfold Program.liftsFinal Program.headLifts; rw [h]
  simp only [strip_cut]
  kernel_rfl

theorem may_enter : Try.prog.mayEnter = true := enter_of _ _ words_are (by kernel_rfl) (by kernel_rfl) (by kernel_rfl)
theorem lifts_final : Try.prog.liftsFinal = false := lifts_of _ _ words_are
theorem make_is : Try.prog.make = some .cut := make_of _ _ words_are
theorem both {a b : Bool} (h : a = true) (h' : b = true) : (a && b) = true := by rw [h, h']; rfl
end Go.Proofs.Qxb6000609a

