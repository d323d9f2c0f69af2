import Derived.Test.Qxb6601249aAdd
namespace Go.Proofs.Qxb6601249a
open Go.RowKit

theorem row_eq (f : Nat → Int) : (row f).toArray = #[.int .i64 (f 0), .int .i64 (f 1), .int .i64 (f 2), .int .i64 (f 3), .int .i64 (f 4), .int .i64 (f 5), .int .i64 (f 6), .int .i64 (f 7), .int .i64 (f 8), .int .i64 (f 9), .int .i64 (f 10), .int .i64 (f 11), .int .i64 (f 12), .int .i64 (f 13), .int .i64 (f 14), .int .i64 (f 15)] := rfl

set_option maxHeartbeats 1600000 in
set_option maxRecDepth 100000 in
theorem new_any (f : Nat → Int) (nx : Int) (cl : Bool) (w : World) :
    Calls Try.prog 5 #[.agg (row f).toArray, .int .i64 nx, .bool cl] w fun e w' => e = .returned (.pointer (some ⟨w.heap.size + 1, 0, none⟩)) ∧ IP w' (w.heap.size + 1) f nx cl ∧ Below w.heap.size w w' ∧ w'.heap.size = w.heap.size + 2 := by
  rw [row_eq]
  go_enter Try.func5, Try.ntmps5
  go_wp2
  go_ret
  refine ⟨rfl, ?_, ((Below.refl _ _).alloc (Nat.le_refl _) _).alloc (by simp) _, by simp⟩
  refine ⟨⟨?_, fun k => World.frozen?_alloc_at _ _ _ _ (by simp)⟩, ?_, ?_⟩
  · intro k hk
    rw [World.cell?_alloc_at _ _ _ _ (by simp)]
    match k, hk with
    | 0, _ => rfl
    | 1, _ => rfl
    | 2, _ => rfl
    | 3, _ => rfl
    | 4, _ => rfl
    | 5, _ => rfl
    | 6, _ => rfl
    | 7, _ => rfl
    | 8, _ => rfl
    | 9, _ => rfl
    | 10, _ => rfl
    | 11, _ => rfl
    | 12, _ => rfl
    | 13, _ => rfl
    | 14, _ => rfl
    | 15, _ => rfl
    | n + 16, h => exact absurd h (by omega)
  · rw [World.cell?_alloc_at _ _ _ _ (by simp)]; rfl
  · rw [World.cell?_alloc_at _ _ _ _ (by simp)]; rfl

set_option maxHeartbeats 400000 in
theorem zzadd_any (B n : Nat) (f : Nat → Int) (v : Int) (cl : Bool) (w : World) (hn : n < 16) (hP : IP w B f n cl) (hf : ∀ k, k < 16 → f k ≤ 9223372036854775807) (hv : v ≤ 9223372036854775807) :
    Calls Try.prog 6 #[.pointer (some ⟨B, 0, none⟩), .int .i64 v] w fun e w' => e = .returned (.tuple #[]) ∧ IP w' B (upd f n v) (((n + 1) % 16 : Nat) : Int) (verdict (upd f n v)) ∧ Below B w w' := by
  go_enter Try.func6, Try.ntmps6
  go_wp2_with (go_at_call 10; refine (add_any B n f v cl w hn hP hf hv).mono ?_; rintro e w1 ⟨rfl, h1, h2⟩)
  go_end0
  exact ⟨rfl, by simpa using h1, h2⟩

set_option maxHeartbeats 1600000 in
set_option maxRecDepth 100000 in
theorem state_any (B : Nat) (f : Nat → Int) (nx : Int) (cl : Bool) (w : World) (hP : IP w B f nx cl) (hB : B < w.heap.size) :
    Calls Try.prog 7 #[.pointer (some ⟨B, 0, none⟩)] w fun e w' => e = .returned (.tuple #[.agg (row f).toArray, .int .i64 nx, .bool cl]) ∧ Below w.heap.size w w' := by
  obtain ⟨hA, c16, c17⟩ := hP
  have k0 := hA.cell 0 (by omega)
  have k1 := hA.cell 1 (by omega)
  have k2 := hA.cell 2 (by omega)
  have k3 := hA.cell 3 (by omega)
  have k4 := hA.cell 4 (by omega)
  have k5 := hA.cell 5 (by omega)
  have k6 := hA.cell 6 (by omega)
  have k7 := hA.cell 7 (by omega)
  have k8 := hA.cell 8 (by omega)
  have k9 := hA.cell 9 (by omega)
  have k10 := hA.cell 10 (by omega)
  have k11 := hA.cell 11 (by omega)
  have k12 := hA.cell 12 (by omega)
  have k13 := hA.cell 13 (by omega)
  have k14 := hA.cell 14 (by omega)
  have k15 := hA.cell 15 (by omega)
  go_enter Try.func7, Try.ntmps7
  go_wp2
  go_region
  go_wp2
  refine bodyPost_ret (v := .tuple #[.agg #[.int .i64 (f 0), .int .i64 (f 1), .int .i64 (f 2), .int .i64 (f 3), .int .i64 (f 4), .int .i64 (f 5), .int .i64 (f 6), .int .i64 (f 7), .int .i64 (f 8), .int .i64 (f 9), .int .i64 (f 10), .int .i64 (f 11), .int .i64 (f 12), .int .i64 (f 13), .int .i64 (f 14), .int .i64 (f 15)], .int .i64 nx, .bool cl]) ?_ rfl ⟨by rw [row_eq], ((Below.refl _ _).alloc (Nat.le_refl _) _).drew⟩
  simp [results, Try.results7, go_sem]
end Go.Proofs.Qxb6601249a
