import Derived.Test.Qxb6601249aWhole
namespace Go.Proofs.Qxb6601249a
open Go.RowKit

/-- The sixteen slots behind k counts of the script z. -/
def st (z : Nat → Int) : Nat → Nat → Int
  | 0 => fun _ => 0
  | k + 1 => upd (st z k) (k % 16) (z k)

/-- The last count whose place is j modulo 16, or 0. -/
def wantF (z : Nat → Int) (n j : Nat) : Int := if j < n then z (j + 16 * ((n - 1 - j) / 16)) else 0

theorem st_want (z : Nat → Int) (n j : Nat) (hj : j < 16) : st z n j = wantF z n j := by
  induction n with
  | zero => simp [st, wantF]
  | succ n ih =>
    simp only [st]
    by_cases e : j = n % 16
    · subst e
      rw [upd_same]
      unfold wantF
      rw [if_pos (by omega)]
      congr 1
      omega
    · rw [upd_ne _ _ _ e, ih]
      unfold wantF
      by_cases h : j < n
      · rw [if_pos h, if_pos (by omega)]
        congr 2
        omega
      · rw [if_neg h, if_neg (by omega)]

theorem st_le (z : Nat → Int) (hz : ∀ k, z k ≤ 9223372036854775807) (n k : Nat) : st z n k ≤ 9223372036854775807 := by
  induction n with
  | zero => simp [st]
  | succ n ih =>
    simp only [st]; unfold upd; split
    · exact hz n
    · exact ih

theorem verdict_zero : verdict (fun _ => 0) = false := by decide +kernel

theorem new_zero (w : World) :
    Calls Try.prog 5 #[.agg #[.int .i64 0, .int .i64 0, .int .i64 0, .int .i64 0, .int .i64 0, .int .i64 0, .int .i64 0, .int .i64 0, .int .i64 0, .int .i64 0, .int .i64 0, .int .i64 0, .int .i64 0, .int .i64 0, .int .i64 0, .int .i64 0], .int .i64 0, .bool false] w
      fun e w' => e = .returned (.pointer (some ⟨w.heap.size + 1, 0, none⟩)) ∧ IP w' (w.heap.size + 1) (fun _ => 0) 0 false ∧ Below w.heap.size w w' ∧ w'.heap.size = w.heap.size + 2 := new_any (fun _ => 0) 0 false w

theorem ip_cast {w : World} {B : Nat} {f : Nat → Int} {x y : Int} {c : Bool} (h : IP w B f x c) (e : y = x) : IP w B f y c := e ▸ h

theorem arr_zero (w : World) (B : Nat) (hB : B = w.heap.size) : Arr (w.alloc (.cells #[.int .i64 0, .int .i64 0, .int .i64 0, .int .i64 0, .int .i64 0, .int .i64 0, .int .i64 0, .int .i64 0, .int .i64 0, .int .i64 0, .int .i64 0, .int .i64 0, .int .i64 0, .int .i64 0, .int .i64 0, .int .i64 0] 22)) B (fun _ => 0) := by
  refine ⟨fun k hk => ?_, fun k => World.frozen?_alloc_at _ _ _ _ hB⟩
  rw [World.cell?_alloc_at _ _ _ _ hB]
  have := row_get (fun _ => 0) k hk
  rw [← List.getElem?_toArray] at this
  exact this

theorem want_hit {z h : Nat → Int} {n j : Nat} (hw : ∀ i, i < j → h i = wantF z n i) (hj : j < n) : ∀ i, i < j + 1 → upd h j (z (j + 16 * ((n - 1 - j) / 16))) i = wantF z n i := by
  intro i hi
  by_cases e : i = j
  · subst e; rw [upd_same]; unfold wantF; rw [if_pos hj]
  · rw [upd_ne _ _ _ e]; exact hw i (by omega)
theorem want_rest {h : Nat → Int} {j : Nat} {v : Int} (hw : ∀ i, j ≤ i → h i = 0) : ∀ i, j + 1 ≤ i → upd h j v i = 0 := by
  intro i hi
  rw [upd_ne _ _ _ (by omega)]; exact hw i (by omega)
theorem want_miss {z h : Nat → Int} {n j : Nat} (hw : ∀ i, i < j → h i = wantF z n i) (h0 : ∀ i, j ≤ i → h i = 0) (hj : ¬ j < n) : ∀ i, i < j + 1 → h i = wantF z n i := by
  intro i hi
  by_cases e : i = j
  · subst e; rw [h0 i (Nat.le_refl _)]; unfold wantF; rw [if_neg hj]
  · exact hw i (by omega)
theorem cells_set {w : World} {B : Nat} {n : Nat} {g : Nat → Int} (h : ∀ i, i < n → w.cell? ⟨B, i, none⟩ = some (.int .i64 (g i))) {C j : Nat} (v : Value) (hC : C ≠ B) :
    ∀ i, i < n → (w.setCell ⟨C, j, none⟩ v).cell? ⟨B, i, none⟩ = some (.int .i64 (g i)) := fun i hi => by
  rw [World.cell?_setCell_other _ _ _ _ (fun e => hC (congrArg Addr.block e))]; exact h i hi

theorem info3 : (Try.prog.info? 3).map (fun i => (i.zero, i.size, i.bytes)) = some (some (.int .i64 0), 1, 8) := by kernel_rfl

theorem set_ok {xs : List Value} {z : Nat → Int} {k : Nat} (h : ∀ j, j < k → xs[j]? = some (.int .i64 (z j))) (hk : k < xs.length) :
    ∀ j, j < k + 1 → (xs.set k (.int .i64 (z k)))[j]? = some (.int .i64 (z j)) := by
  intro j hj
  rw [List.getElem?_set]
  by_cases e : k = j
  · subst e; simp [hk]
  · rw [if_neg e]; exact h j (by omega)
end Go.Proofs.Qxb6601249a
