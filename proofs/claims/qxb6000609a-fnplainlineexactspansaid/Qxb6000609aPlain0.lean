import Derived.Test.Qxb6000609aBase
import Derived.Deep.QuietTactic
import Derived.BigQuiet
namespace Go.Proofs.Qxb6000609a
open Go.RowKit

def blank (c : Int) : Bool := decide (c = 32 ∨ c = 9)
def brk (c : Int) : Bool := decide (c = 10 ∨ c = 13)
def flowI (c : Int) : Bool := decide (c = 44 ∨ c = 91 ∨ c = 93 ∨ c = 123 ∨ c = 125)
/-- May the sign at i follow a colon? -/
def safe (zs : List Int) (n : Nat) (fl : Bool) (i : Nat) : Bool := decide (i < n ∧ blank (zs.getD i 0) = false ∧ brk (zs.getD i 0) = false ∧ ¬ (fl = true ∧ flowI (zs.getD i 0) = true))
/-- Does the sign at i end the run? -/
def stop (zs : List Int) (n : Nat) (fl : Bool) (i : Nat) : Bool :=
  decide (brk (zs.getD i 0) = true ∨ (zs.getD i 0 = 58 ∧ safe zs n fl (i + 1) = false) ∨ (zs.getD i 0 = 35 ∧ blank (zs.getD (i - 1) 0) = true) ∨ (fl = true ∧ flowI (zs.getD i 0) = true))

/-! ### The small tests -/
theorem blank_any (c : Int) (w : World) : Calls Try.prog 33 #[.int .u8 c] w fun e w' => e = .returned (.bool (blank c)) ∧ w = w' := by
  by_cases h1 : c = 32
  · subst h1; go_enter Try.func33, Try.ntmps33; go_wp2; go_ret; exact ⟨rfl, rfl⟩
  have e1 : (c == 32) = false := by simpa using h1
  have H : Hid (blank c = (c == 9)) := by show blank c = (c == 9); unfold blank; rw [Bool.eq_iff_iff]; simp [h1]
  clear h1
  go_enter Try.func33, Try.ntmps33; go_wp2; go_ret; exact ⟨by rw [H.out]; rfl, rfl⟩
theorem ylBlank_any (c : Int) (w : World) : Calls Try.prog 14 #[.int .u8 c] w fun e w' => e = .returned (.bool (blank c)) ∧ w = w' := by
  by_cases h1 : c = 32
  · subst h1; go_enter Try.func14, Try.ntmps14; go_wp2; go_ret; exact ⟨rfl, rfl⟩
  have e1 : (c == 32) = false := by simpa using h1
  have H : Hid (blank c = (c == 9)) := by show blank c = (c == 9); unfold blank; rw [Bool.eq_iff_iff]; simp [h1]
  clear h1
  go_enter Try.func14, Try.ntmps14; go_wp2; go_ret; exact ⟨by rw [H.out]; rfl, rfl⟩
theorem brk_any (c : Int) (w : World) : Calls Try.prog 34 #[.int .u8 c] w fun e w' => e = .returned (.bool (brk c)) ∧ w = w' := by
  by_cases h1 : c = 10
  · subst h1; go_enter Try.func34, Try.ntmps34; go_wp2; go_ret; exact ⟨rfl, rfl⟩
  have e1 : (c == 10) = false := by simpa using h1
  have H : Hid (brk c = (c == 13)) := by show brk c = (c == 13); unfold brk; rw [Bool.eq_iff_iff]; simp [h1]
  clear h1
  go_enter Try.func34, Try.ntmps34; go_wp2; go_ret; exact ⟨by rw [H.out]; rfl, rfl⟩
theorem ylBreak_any (c : Int) (w : World) : Calls Try.prog 29 #[.int .u8 c] w fun e w' => e = .returned (.bool (brk c)) ∧ w = w' := by
  by_cases h1 : c = 10
  · subst h1; go_enter Try.func29, Try.ntmps29; go_wp2; go_ret; exact ⟨rfl, rfl⟩
  have e1 : (c == 10) = false := by simpa using h1
  have H : Hid (brk c = (c == 13)) := by show brk c = (c == 13); unfold brk; rw [Bool.eq_iff_iff]; simp [h1]
  clear h1
  go_enter Try.func29, Try.ntmps29; go_wp2; go_ret; exact ⟨by rw [H.out]; rfl, rfl⟩
theorem flow_any (c : Int) (w : World) : Calls Try.prog 36 #[.int .u8 c] w fun e w' => e = .returned (.bool (flowI c)) ∧ w = w' := by
  by_cases h1 : c = 44
  · subst h1; go_enter Try.func36, Try.ntmps36; go_wp2; go_ret; exact ⟨rfl, rfl⟩
  by_cases h2 : c = 91
  · subst h2; go_enter Try.func36, Try.ntmps36; go_wp2; go_ret; exact ⟨rfl, rfl⟩
  by_cases h3 : c = 93
  · subst h3; go_enter Try.func36, Try.ntmps36; go_wp2; go_ret; exact ⟨rfl, rfl⟩
  by_cases h4 : c = 123
  · subst h4; go_enter Try.func36, Try.ntmps36; go_wp2; go_ret; exact ⟨rfl, rfl⟩
  have e1 : (c == 44) = false := by simpa using h1
  have e2 : (c == 91) = false := by simpa using h2
  have e3 : (c == 93) = false := by simpa using h3
  have e4 : (c == 123) = false := by simpa using h4
  have H : Hid (flowI c = (c == 125)) := by show flowI c = (c == 125); unfold flowI; rw [Bool.eq_iff_iff]; simp [h1, h2, h3, h4]
  clear h1 h2 h3 h4
  go_enter Try.func36, Try.ntmps36; go_wp2; go_ret; exact ⟨by rw [H.out]; rfl, rfl⟩
theorem ylFlow_any (c : Int) (w : World) : Calls Try.prog 30 #[.int .u8 c] w fun e w' => e = .returned (.bool (flowI c)) ∧ w = w' := by
  by_cases h1 : c = 44
  · subst h1; go_enter Try.func30, Try.ntmps30; go_wp2; go_ret; exact ⟨rfl, rfl⟩
  by_cases h2 : c = 91
  · subst h2; go_enter Try.func30, Try.ntmps30; go_wp2; go_ret; exact ⟨rfl, rfl⟩
  by_cases h3 : c = 93
  · subst h3; go_enter Try.func30, Try.ntmps30; go_wp2; go_ret; exact ⟨rfl, rfl⟩
  by_cases h4 : c = 123
  · subst h4; go_enter Try.func30, Try.ntmps30; go_wp2; go_ret; exact ⟨rfl, rfl⟩
  have e1 : (c == 44) = false := by simpa using h1
  have e2 : (c == 91) = false := by simpa using h2
  have e3 : (c == 93) = false := by simpa using h3
  have e4 : (c == 123) = false := by simpa using h4
  have H : Hid (flowI c = (c == 125)) := by show flowI c = (c == 125); unfold flowI; rw [Bool.eq_iff_iff]; simp [h1, h2, h3, h4]
  clear h1 h2 h3 h4
  go_enter Try.func30, Try.ntmps30; go_wp2; go_ret; exact ⟨by rw [H.out]; rfl, rfl⟩

/-! A test's contract at a value that is known. -/
theorem at_bool {f : FuncId} {c : Int} {t : Int → Bool} {b : Bool} {w : World} (h : Calls Try.prog f #[.int .u8 c] w fun e w' => e = .returned (.bool (t c)) ∧ w = w') (hb : t c = b) :
    Calls Try.prog f #[.int .u8 c] w fun e w' => e = .returned (.bool b) ∧ w = w' := by rwa [hb] at h

theorem bob_any (c : Int) (b : Bool) (hb : (blank c || brk c) = b) (w : World) : Calls Try.prog 39 #[.int .u8 c] w fun e w' => e = .returned (.bool b) ∧ w = w' := by
  cases h1 : blank c with
  | true =>
    rw [h1, Bool.true_or] at hb
    subst hb
    have H1 : Hid (blank c = true) := h1
    clear h1
    go_enter Try.func39, Try.ntmps39
    go_wp2_with (go_at_call 33; refine (at_bool (blank_any c _) H1.out).mono ?_; rintro e w' ⟨rfl, rfl⟩)
    go_ret; exact ⟨rfl, rfl⟩
  | false =>
    rw [h1, Bool.false_or] at hb
    have H1 : Hid (blank c = false) := h1
    have H2 : Hid (brk c = b) := hb
    clear h1 hb
    go_enter Try.func39, Try.ntmps39
    go_wp2_with (first
      | (go_at_call 33; refine (at_bool (blank_any c _) H1.out).mono ?_; rintro e w' ⟨rfl, rfl⟩)
      | (go_at_call 34; refine (at_bool (brk_any c _) H2.out).mono ?_; rintro e w' ⟨rfl, rfl⟩))
    go_ret; exact ⟨rfl, rfl⟩
end Go.Proofs.Qxb6000609a
