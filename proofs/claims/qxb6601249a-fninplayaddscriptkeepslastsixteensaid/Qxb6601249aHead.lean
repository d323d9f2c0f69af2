/-
  THE HEAD OF THE CUT, READ ONCE. Three closed facts of a row read the signs of the program's head ('initOrder'): the kernel unfolds the reading of a long string sign by sign in gigabytes. Here the head is given as a list of signs, by one equation, and the three facts are read off that list.
-/
import Derived.Test.Qxb6601249aRows
import Derived.JoinedOf
import Derived.KernelRfl
namespace Go.Proofs.Qxb6601249a
open Go

def headSigns : List Nat :=
  [104, 97, 114, 110, 101, 115, 115, 32, 55, 55, 57, 56, 52, 56, 99, 57, 99, 101, 57, 55, 54, 102, 102, 98, 99, 50, 51, 49, 49, 55, 99, 56, 101, 50, 50, 56, 98, 50, 99, 102, 99, 97, 57, 48, 50, 56, 97, 57, 51, 54, 56, 99, 50, 57, 50, 51, 57, 48, 100, 57, 52, 56, 102, 98, 55, 56, 52, 100, 97, 51, 50, 53, 32, 99, 117, 116, 32, 97, 116, 32, 101, 120, 97, 109, 112, 108, 101, 46, 99, 111, 109, 47, 97, 115, 115, 101, 110, 116, 47, 97, 115, 115, 101, 110, 116, 47, 122, 122, 108, 97, 119, 115, 95, 105, 110, 116, 101, 114, 110, 97, 108, 95, 112, 97, 120, 111, 115, 95, 98, 49, 46, 70, 110, 73, 110, 80, 108, 97, 121, 65, 100, 100, 87, 104, 111, 108, 101, 83, 112, 101, 99, 32, 101, 120, 97, 109, 112, 108, 101, 46, 99, 111, 109, 47, 97, 115, 115, 101, 110, 116, 47, 97, 115, 115, 101, 110, 116, 47, 122, 122, 108, 97, 119, 115, 95, 105, 110, 116, 101, 114, 110, 97, 108, 95, 112, 97, 120, 111, 115, 95, 98, 49, 46, 70, 110, 73, 110, 80, 108, 97, 121, 65, 100, 100, 83, 99, 114, 105, 112, 116, 75, 101, 101, 112, 115, 76, 97, 115, 116, 83, 105, 120, 116, 101, 101, 110]
theorem head_is : Try.prog.initOrder = String.ofList (headSigns.map Char.ofNat) := by kernel_rfl
theorem head_list : Try.prog.initOrder.toList = headSigns.map Char.ofNat := by rw [head_is, String.toList_ofList]
/-- The head's words behind the harness's own: 'cut', and what it was cut at. -/
theorem words_list : behindMainWord (wordsSigns (headSigns.map Char.ofNat)) = ['c', 'u', 't'] :: wordsSigns ((headSigns.drop 77).map Char.ofNat) := by kernel_rfl
theorem words_are : behindMainWord (wordsSigns Try.prog.initOrder.toList) = ['c', 'u', 't'] :: wordsSigns ((headSigns.drop 77).map Char.ofNat) := by rw [head_list, words_list]

/-! What follows is said of whatever program, so that the kernel does not lay the program open. -/
theorem strip_cut (rest : List (List Char)) : stripLifts liftWords (['c', 'u', 't'] :: rest) = ([], ['c', 'u', 't'] :: rest) := by kernel_rfl
theorem make_of (P : Program) (rest : List (List Char)) (h : behindMainWord (wordsSigns P.initOrder.toList) = ['c', 'u', 't'] :: rest) : P.make = some .cut := by
  unfold Program.make; rw [h]; kernel_rfl
theorem enter_of (P : Program) (rest : List (List Char)) (h : behindMainWord (wordsSigns P.initOrder.toList) = ['c', 'u', 't'] :: rest) (h1 : P.laysLater = false) (h2 : P.bearsReflect = false)
    (h3 : P.doorFits [] = true) : P.mayEnter = true := by
  unfold Program.mayEnter; rw [h]
  simp only [strip_cut, h1, h2, h3]
  kernel_rfl
theorem lifts_of (P : Program) (rest : List (List Char)) (h : behindMainWord (wordsSigns P.initOrder.toList) = ['c', 'u', 't'] :: rest) : P.liftsFinal = false := by
  unfold Program.liftsFinal Program.headLifts; rw [h]
  simp only [strip_cut]
  kernel_rfl

theorem may_enter : Try.prog.mayEnter = true := enter_of _ _ words_are (by kernel_rfl) (by kernel_rfl) (by kernel_rfl)
theorem lifts_final : Try.prog.liftsFinal = false := lifts_of _ _ words_are
theorem make_is : Try.prog.make = some .cut := make_of _ _ words_are
theorem both {a b : Bool} (h : a = true) (h' : b = true) : (a && b) = true := by rw [h, h']; rfl
end Go.Proofs.Qxb6601249a

