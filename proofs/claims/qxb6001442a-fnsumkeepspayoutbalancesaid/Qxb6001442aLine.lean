import Derived.Test.Qxb6001442aBase
namespace Go.Proofs.Qxb6001442a
open Go.RowKit

/-- The cells of a line. -/
def lineC (a b c : ByteArray) (u p i g y : Int) : List Value :=
  [.string a, .string b, .string c, .int .i64 u, .pointer none, .int .i64 p, .int .i64 i, .int .i64 g, .int .i64 y]
def mt : ByteArray := ⟨#[]⟩

set_option maxHeartbeats 1600000 in
set_option maxRecDepth 100000 in
/-- zzPool: a new block with the pool's line. -/
theorem pool_any (s : ByteArray) (u p i g y : Int) (w : World) :
    Calls Try.prog 7 #[.string s, .agg #[.int .i64 u, .int .i64 p, .int .i64 i, .int .i64 g, .int .i64 y]] w fun e w' =>
      e = .returned (.pointer (some ⟨w.heap.size + 1, 0, none⟩)) ∧ w'.rangeAt (w.heap.size + 1) 0 (lineC s s mt u p i g y) ∧ Below w.heap.size w w' ∧ w'.heap.size = w.heap.size + 2 := by
  go_enter Try.func7, Try.ntmps7
  go_wp2
  go_ret
  refine ⟨rfl, ?_, ((Below.refl _ _).alloc (Nat.le_refl _) _).alloc (by simp) _, by simp⟩
  intro j v hv
  rw [World.cell?_alloc_at _ _ _ _ (by simp)]
  rw [Nat.zero_add]
  rw [← List.getElem?_toArray] at hv
  exact hv

set_option maxHeartbeats 1600000 in
set_option maxRecDepth 100000 in
theorem line_any (V n m : Nat) (z : Nat → Int) (w : World) (hm : 5 * m + 4 < n) (hn : n ≤ 131072) (hz : ∀ k, k < n → w.cell? ⟨V, k, none⟩ = some (.int .i64 (z k))) :
    Calls Try.prog 12 #[.slice (some ⟨V, 0, none⟩) n n, .slice none 0 0, .int .i64 m] w fun e w' =>
      e = .returned (.agg (lineC mt mt mt (z (5 * m)) (z (5 * m + 1)) (z (5 * m + 2)) (z (5 * m + 3)) (z (5 * m + 4))).toArray) ∧ Below w.heap.size w w' := by
  have h0 := hz (5 * m) (by omega)
  have h1 := hz (5 * m + 1) (by omega)
  have h2 := hz (5 * m + 2) (by omega)
  have h3 := hz (5 * m + 3) (by omega)
  have h4 := hz (5 * m + 4) (by omega)
  have hV : V < w.heap.size := World.block_lt_of_cell? w _ h0
  clear hz
  go_enter Try.func12, Try.ntmps12
  go_wp2
  go_region
  go_wp2
  refine bodyPost_ret (v := .agg #[.string mt, .string mt, .string mt, .int .i64 (z (5 * m)), .pointer none, .int .i64 (z (5 * m + 1)), .int .i64 (z (5 * m + 2)), .int .i64 (z (5 * m + 3)), .int .i64 (z (5 * m + 4))]) ?_ rfl ⟨rfl, ((Below.refl _ _).alloc (Nat.le_refl _) _).drew⟩
  simp [results, Try.results12, go_sem, mt]
end Go.Proofs.Qxb6001442a
