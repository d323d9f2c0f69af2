import Derived.Test.Qxb6000609aBuf
namespace Go.Proofs.Qxb6000609a
open Go.RowKit

def hexD (d : Int) : Int := if d < 10 then 48 + d else 87 + d
/-- What is written for a byte that must be escaped. -/
def esc1 (c : Int) : List Int :=
  if c = 34 ∨ c = 92 then [92, c] else if c = 8 then [92, 98] else if c = 12 then [92, 102] else if c = 10 then [92, 110] else if c = 13 then [92, 114] else if c = 9 then [92, 116]
  else [92, 117, 48, 48, hexD (c / 16), hexD (c % 16)]
def must (c : Int) : Bool := decide (c < 32 ∨ c = 34 ∨ c = 92)

set_option maxHeartbeats 400000 in
theorem esc_self (c : Int) (hc : c = 34 ∨ c = 92) (B : Nat) (v : Value) (xs : List Int) (W0 w : World) (hb : Buf B v xs W0 w) (hl : xs.length ≤ 50000000) :
    Calls Try.prog 38 #[v, .int .i32 c] w fun e w' => ∃ v', e = .returned v' ∧ Buf B v' (xs ++ [92, c]) W0 w' := by
  rcases hc with rfl | rfl
  · go_enter Try.func38, Try.ntmps38
    go_wp2_with (at_builtin; refine buf_lit [92, 34] rfl (.tmp 9) (.tmp 12) rfl B v xs W0 _ (hb.alloc _) rfl w.heap.size (heap_alloc_new w _) rfl (by simp; omega) ?_; intro v1 w1 hb1)
    go_ret
    exact ⟨_, rfl, hb1⟩
  · go_enter Try.func38, Try.ntmps38
    go_wp2_with (at_builtin; refine buf_lit [92, 92] rfl (.tmp 9) (.tmp 12) rfl B v xs W0 _ (hb.alloc _) rfl w.heap.size (heap_alloc_new w _) rfl (by simp; omega) ?_; intro v1 w1 hb1)
    go_ret
    exact ⟨_, rfl, hb1⟩

set_option maxHeartbeats 400000 in
theorem esc_8 (B : Nat) (v : Value) (xs : List Int) (W0 w : World) (hb : Buf B v xs W0 w) (hl : xs.length ≤ 50000000) :
    Calls Try.prog 38 #[v, .int .i32 8] w fun e w' => ∃ v', e = .returned v' ∧ Buf B v' (xs ++ [92, 98]) W0 w' := by
  go_enter Try.func38, Try.ntmps38
  go_wp2_with (at_builtin; refine buf_str rfl (.tmp 16) (.const (.string ⟨#[92, 98]⟩)) rfl B v xs W0 _ hb rfl ⟨#[92, 98]⟩ rfl (by show xs.length + 2 ≤ _; omega) ?_; intro v1 w1 hb1)
  go_ret
  exact ⟨_, rfl, hb1⟩

theorem bits_facts (c : Int) (h0 : 0 ≤ c) (h32 : c < 32) : bits BinOp.and IntKind.i32 (c / 4096) 15 = 0 ∧ bits BinOp.and IntKind.i32 (c / 256) 15 = 0 ∧
    ∃ d1 d0 : Nat, d1 < 16 ∧ d0 < 16 ∧ bits BinOp.and IntKind.i32 (c / 16) 15 = (d1 : Int) ∧ bits BinOp.and IntKind.i32 c 15 = (d0 : Int) ∧ c / 16 = d1 ∧ c % 16 = d0 := by
  obtain ⟨n, rfl⟩ : ∃ n : Nat, c = n := ⟨c.toNat, by omega⟩
  have hn : n < 32 := by omega
  have key : ∀ m : Fin 32, bits BinOp.and IntKind.i32 (((m.val : Nat) : Int) / 4096) 15 = 0 ∧ bits BinOp.and IntKind.i32 (((m.val : Nat) : Int) / 256) 15 = 0 ∧
      bits BinOp.and IntKind.i32 (((m.val : Nat) : Int) / 16) 15 = ((m.val / 16 : Nat) : Int) ∧ bits BinOp.and IntKind.i32 ((m.val : Nat) : Int) 15 = ((m.val % 16 : Nat) : Int) := by decide +kernel
  obtain ⟨k1, k2, k3, k4⟩ := key ⟨n, hn⟩
  exact ⟨k1, k2, n / 16, n % 16, by omega, by omega, k3, k4, by omega, by omega⟩

theorem hex_at : ∀ d : Fin 16, ((((⟨#[48, 49, 50, 51, 52, 53, 54, 55, 56, 57, 97, 98, 99, 100, 101, 102]⟩ : ByteArray)[d.val]'d.isLt).toNat : Nat) : Int) = hexD ((d.val : Nat) : Int) := by decide +kernel

theorem buf_cast {B : Nat} {v : Value} {xs ys zs : List Int} {W0 w : World} (h : Buf B v (xs ++ ys) W0 w) (e : ys = zs) : Buf B v (xs ++ zs) W0 w := e ▸ h

set_option maxHeartbeats 1600000 in
theorem esc_u (c : Int) (h0 : 0 ≤ c) (h32 : c < 32) (n8 : c ≠ 8) (n9 : c ≠ 9) (n10 : c ≠ 10) (n12 : c ≠ 12) (n13 : c ≠ 13) (B : Nat) (v : Value) (xs : List Int) (W0 w : World) (hb : Buf B v xs W0 w) (hl : xs.length ≤ 50000000) :
    Calls Try.prog 38 #[v, .int .i32 c] w fun e w' => ∃ v', e = .returned v' ∧ Buf B v' (xs ++ [92, 117, 48, 48, hexD (c / 16), hexD (c % 16)]) W0 w' := by
  have e1 : (c == 34) = false := by simp; omega
  have e2 : (c == 92) = false := by simp; omega
  have e3 : (c == 8) = false := by simpa using n8
  have e4 : (c == 12) = false := by simpa using n12
  have e5 : (c == 10) = false := by simpa using n10
  have e6 : (c == 13) = false := by simpa using n13
  have e7 : (c == 9) = false := by simpa using n9
  obtain ⟨b1, b2, d1, d0, hd1, hd0, b3, b4, k1, k2⟩ := bits_facts c h0 h32
  have H1 : Hid (c / 16 = d1) := k1
  have H0 : Hid (c % 16 = d0) := k2
  have i1 : (d1 : Int) < 16 := by omega
  have i0 : (d0 : Int) < 16 := by omega
  clear n8 n9 n10 n12 n13 k1 k2
  go_enter Try.func38, Try.ntmps38
  go_wp2
  go_region_law (refine buf_lit_step [92, 117, _, _, _, _] rfl (.tmp 34) (.tmp 50) rfl B v xs W0 _ ((hb.alloc _).drewN 1) rfl w.heap.size (heap_alloc_new w _) rfl (by simp; omega) ?_; intro v1 w1 hb1)
  all_goals go_wp2
  all_goals go_ret
  all_goals exact ⟨_, rfl, buf_cast hb1 (by rw [H1.out, H0.out, ← hex_at ⟨d1, hd1⟩, ← hex_at ⟨d0, hd0⟩]; rfl)⟩
end Go.Proofs.Qxb6000609a
