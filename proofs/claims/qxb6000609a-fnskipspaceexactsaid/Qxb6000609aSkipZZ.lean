import Derived.Test.Qxb6000609aSkip
namespace Go.Proofs.Qxb6000609a
open Go.RowKit

theorem par_new (w : World) (n : Nat) (a : Option Addr) (pos line ls : Int) :
    Par (w.alloc (.cells #[.pointer none, .bool false, .slice a n n, .int .i64 pos, .int .i64 line, .int .i64 ls, .slice none 0 0, .slice none 0 0, .slice none 0 0] 50)) w.heap.size n a pos line ls :=
  ⟨by simp [World.cell?_alloc_at], by simp [World.cell?_alloc_at], by simp [World.cell?_alloc_at], by simp [World.cell?_alloc_at], fun i => World.frozen?_alloc_at _ _ _ _ rfl⟩

set_option maxHeartbeats 800000 in
theorem zz_far (n : Nat) (a : Option Addr) (pos line ls : Int) (w : World) (hp : (n : Int) ≤ pos) :
    Calls Try.prog 19 #[.slice a n n, .int .i64 pos, .int .i64 line, .int .i64 ls] w fun e w' => e = .returned (.tuple #[.int .i64 pos, .int .i64 line, .int .i64 ls]) ∧ Below w.heap.size w w' := by
  go_enter Try.func19, Try.ntmps19
  go_wp2_with (go_at_call 31; refine (skip_far w.heap.size n a pos line ls _ hp (par_new _ _ _ _ _ _)).mono ?_; rintro e w1 ⟨rfl, hb, c2, c3, c4, c5, fz⟩)
  go_quiet (fail)
  go_wp2
  go_ret3
  exact ⟨rfl, below_drewN (((Below.refl _ _).alloc (Nat.le_refl _) _).trans hb) _⟩

set_option maxHeartbeats 800000 in
theorem zz_near (g n p : Nat) (zs : List Int) (line ls : Int) (w : World) (hn : n ≤ 1048576) (hp : p ≤ n) (hg : g < w.heap.size) (hl : wrap64 line = line)
    (hz : ∀ i, i < n → w.cell? ⟨g, i, none⟩ = some (.int .u8 (zs.getD i 0))) :
    Calls Try.prog 19 #[.slice (some ⟨g, 0, none⟩) n n, .int .i64 p, .int .i64 line, .int .i64 ls] w fun e w' =>
      ∃ d : Nat, p + d ≤ n ∧ (∀ i, i < d → isSp (zs.getD (p + i) 0) = true) ∧ (p + d < n → isSp (zs.getD (p + d) 0) = false) ∧
      e = .returned (.tuple #[.int .i64 ((p + d : Nat) : Int), .int .i64 (wrap64 (line + nls zs p d)), .int .i64 (lst zs p ls d)]) ∧ Below w.heap.size w w' := by
  have HL : Hid (wrap64 line = line) := hl
  clear hl
  go_enter Try.func19, Try.ntmps19
  go_wp2_with (go_at_call 31; refine (skip_near w.heap.size g n p zs line ls _ hn hp hg HL.out (fun i hi => by rw [World.cell?_alloc_past _ _ _ hg]; exact hz i hi) (par_new _ _ _ _ _ _)).mono ?_; rintro e w1 ⟨rfl, d, hd, hsp, hnd, hb, c2, c3, c4, c5, fz⟩)
  go_quiet (fail)
  go_wp2
  go_ret3
  exact ⟨d, hd, hsp, hnd, rfl, below_drewN (((Below.refl _ _).alloc (Nat.le_refl _) _).trans hb) _⟩
end Go.Proofs.Qxb6000609a
