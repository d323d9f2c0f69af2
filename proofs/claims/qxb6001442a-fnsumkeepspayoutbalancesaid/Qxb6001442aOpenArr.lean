import Derived.Test.Qxb6001442aRows
import Derived.ProofKit
import Derived.OpenShut
namespace Go.Proofs.Qxb6001442a
open Go.RowKit

/-- An array of integers, by value, opened: the numbers as a function of the place; each fits its kind. -/
theorem open_arr {H : Type} {enc : TypeId × Value → H} {P : Program} {w : World} {base : Nat} {spare : Nat → Bool} {held : Bool} {r : Reach} {b0 n : Nat} {t e : TypeId} {k : IntKind} {v : Value} {d : DataW H} {p : List MemPlace}
    (ht : P.underlying t = some (.array n e)) (he : P.underlying e = some (.int k)) (hce : P.cellsOf e = 1) (hct : P.cellsOf t = n)
    (hv : Value.okWide P w r b0 t v) (h : DataW.Trod enc P w base spare held t v d p) :
    ∃ f : Nat → Int, v = .agg ((List.range n).map fun i => Value.int k (f i)).toArray ∧ ∀ i, i < n → (Lit.int k (f i)).wf = true := by
  unfold Value.okWide at hv
  rw [ht] at hv
  obtain ⟨cs, rfl, hsz, _⟩ := hv
  rw [hct] at hsz
  obtain ⟨fuel, hf⟩ := h
  obtain ⟨xs, m, _, _, _, hxl, hall⟩ := DataW.trod_array ht hf
  have key : ∀ i, i < n → ∃ z, cs.toList[i]? = some (.int k z) ∧ (Lit.int k z).wf = true := by
    intro i hi
    have h1 := hall i hi
    rw [List.getElem?_eq_getElem (by omega : i < xs.length), hce, Nat.mul_one] at h1
    obtain ⟨z, hz, _, hw⟩ := DataW.trod_int he h1
    refine ⟨z, ?_, hw⟩
    have h2 := congrArg (fun l => l[0]?) hz
    simpa [Value.cells, List.getElem?_take, List.getElem?_drop] using h2
  refine ⟨fun i => match cs.toList[i]? with | some (.int _ z) => z | _ => 0, ?_, ?_⟩
  · congr 1
    apply Array.ext'
    apply List.ext_getElem?
    intro i
    by_cases hi : i < n
    · obtain ⟨z, hz, _⟩ := key i hi
      simp only [List.getElem?_map, List.getElem?_range hi, Option.map_some]
      rw [hz]
    · rw [List.getElem?_eq_none (by simp; omega), List.getElem?_eq_none (by simp; omega)]
  · intro i hi
    obtain ⟨z, hz, hw⟩ := key i hi
    simp only [hz]; exact hw
end Go.Proofs.Qxb6001442a
