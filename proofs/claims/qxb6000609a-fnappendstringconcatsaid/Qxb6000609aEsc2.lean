import Derived.Test.Qxb6000609aEsc
namespace Go.Proofs.Qxb6000609a
open Go.RowKit

set_option maxHeartbeats 400000 in
theorem esc_12 (B : Nat) (v : Value) (xs : List Int) (W0 w : World) (hb : Buf B v xs W0 w) (hl : xs.length ≤ 50000000) :
    Calls Try.prog 38 #[v, .int .i32 12] w fun e w' => ∃ v', e = .returned v' ∧ Buf B v' (xs ++ [92, 102]) W0 w' := by
  go_enter Try.func38, Try.ntmps38
  go_wp2_with (at_builtin; refine buf_str rfl (.tmp 20) (.const (.string ⟨#[92, 102]⟩)) rfl B v xs W0 _ hb rfl ⟨#[92, 102]⟩ rfl (by show xs.length + 2 ≤ _; omega) ?_; intro v1 w1 hb1)
  go_ret
  exact ⟨_, rfl, hb1⟩

set_option maxHeartbeats 400000 in
theorem esc_10 (B : Nat) (v : Value) (xs : List Int) (W0 w : World) (hb : Buf B v xs W0 w) (hl : xs.length ≤ 50000000) :
    Calls Try.prog 38 #[v, .int .i32 10] w fun e w' => ∃ v', e = .returned v' ∧ Buf B v' (xs ++ [92, 110]) W0 w' := by
  go_enter Try.func38, Try.ntmps38
  go_wp2_with (at_builtin; refine buf_str rfl (.tmp 24) (.const (.string ⟨#[92, 110]⟩)) rfl B v xs W0 _ hb rfl ⟨#[92, 110]⟩ rfl (by show xs.length + 2 ≤ _; omega) ?_; intro v1 w1 hb1)
  go_ret
  exact ⟨_, rfl, hb1⟩

set_option maxHeartbeats 400000 in
theorem esc_13 (B : Nat) (v : Value) (xs : List Int) (W0 w : World) (hb : Buf B v xs W0 w) (hl : xs.length ≤ 50000000) :
    Calls Try.prog 38 #[v, .int .i32 13] w fun e w' => ∃ v', e = .returned v' ∧ Buf B v' (xs ++ [92, 114]) W0 w' := by
  go_enter Try.func38, Try.ntmps38
  go_wp2_with (at_builtin; refine buf_str rfl (.tmp 28) (.const (.string ⟨#[92, 114]⟩)) rfl B v xs W0 _ hb rfl ⟨#[92, 114]⟩ rfl (by show xs.length + 2 ≤ _; omega) ?_; intro v1 w1 hb1)
  go_ret
  exact ⟨_, rfl, hb1⟩

set_option maxHeartbeats 400000 in
theorem esc_9 (B : Nat) (v : Value) (xs : List Int) (W0 w : World) (hb : Buf B v xs W0 w) (hl : xs.length ≤ 50000000) :
    Calls Try.prog 38 #[v, .int .i32 9] w fun e w' => ∃ v', e = .returned v' ∧ Buf B v' (xs ++ [92, 116]) W0 w' := by
  go_enter Try.func38, Try.ntmps38
  go_wp2_with (at_builtin; refine buf_str rfl (.tmp 32) (.const (.string ⟨#[92, 116]⟩)) rfl B v xs W0 _ hb rfl ⟨#[92, 116]⟩ rfl (by show xs.length + 2 ≤ _; omega) ?_; intro v1 w1 hb1)
  go_ret
  exact ⟨_, rfl, hb1⟩

/-- escape.Append at a byte that must be escaped. -/
theorem esc_any (c : Int) (h0 : 0 ≤ c) (hm : must c = true) (B : Nat) (v : Value) (xs : List Int) (W0 w : World) (hb : Buf B v xs W0 w) (hl : xs.length ≤ 50000000) :
    Calls Try.prog 38 #[v, .int .i32 c] w fun e w' => ∃ v', e = .returned v' ∧ Buf B v' (xs ++ esc1 c) W0 w' := by
  by_cases c1 : c = 34 ∨ c = 92
  · rw [show esc1 c = [92, c] from by simp only [esc1, if_pos c1]]; exact esc_self c c1 B v xs W0 w hb hl
  by_cases c2 : c = 8
  · subst c2; exact esc_8 B v xs W0 w hb hl
  by_cases c3 : c = 12
  · subst c3; exact esc_12 B v xs W0 w hb hl
  by_cases c4 : c = 10
  · subst c4; exact esc_10 B v xs W0 w hb hl
  by_cases c5 : c = 13
  · subst c5; exact esc_13 B v xs W0 w hb hl
  by_cases c6 : c = 9
  · subst c6; exact esc_9 B v xs W0 w hb hl
  have h32 : c < 32 := by
    have := of_decide_eq_true hm
    omega
  rw [show esc1 c = [92, 117, 48, 48, hexD (c / 16), hexD (c % 16)] from by simp only [esc1, if_neg c1, if_neg c2, if_neg c3, if_neg c4, if_neg c5, if_neg c6]]
  exact esc_u c h0 h32 c2 c6 c4 c3 c5 B v xs W0 w hb hl

theorem must_any (c : Int) (w : World) : Calls Try.prog 37 #[.int .u8 c] w fun e w' => e = .returned (.bool (must c)) ∧ w = w' := by
  by_cases h1 : c < 32
  · have H : Hid (must c = true) := by show must c = true; simp [must, h1]
    go_enter Try.func37, Try.ntmps37; go_wp2; go_ret; exact ⟨by rw [H.out]; rfl, rfl⟩
  by_cases h2 : c = 34
  · subst h2; go_enter Try.func37, Try.ntmps37; go_wp2; go_ret; exact ⟨rfl, rfl⟩
  have e2 : (c == 34) = false := by simpa using h2
  have H : Hid (must c = (c == 92)) := by
    show must c = (c == 92)
    unfold must; rw [Bool.eq_iff_iff]; simp [h1, h2]
  have h1' : 32 ≤ c := by omega
  clear h2
  go_enter Try.func37, Try.ntmps37
  go_wp2
  go_ret
  exact ⟨by rw [H.out]; rfl, rfl⟩
theorem must_true {c : Int} (h : must c = true) (w : World) : Calls Try.prog 37 #[.int .u8 c] w fun e w' => e = .returned (.bool true) ∧ w = w' := by
  have := must_any c w; rwa [h] at this
theorem must_false {c : Int} (h : must c = false) (w : World) : Calls Try.prog 37 #[.int .u8 c] w fun e w' => e = .returned (.bool false) ∧ w = w' := by
  have := must_any c w; rwa [h] at this
end Go.Proofs.Qxb6000609a
