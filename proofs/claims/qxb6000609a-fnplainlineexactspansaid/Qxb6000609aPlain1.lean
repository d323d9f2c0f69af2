import Derived.Test.Qxb6000609aPlain0
namespace Go.Proofs.Qxb6000609a
open Go.RowKit

/-- What the reader at block B holds. -/
structure Rdr (w : World) (B n : Nat) (a : Option Addr) (pos : Int) : Prop where
  c1 : w.cell? ⟨B, 1, none⟩ = some (.slice a n n)
  c2 : w.cell? ⟨B, 2, none⟩ = some (.int .i64 pos)
  fz : w.frozen? ⟨B, 2, none⟩ = false

set_option maxHeartbeats 800000 in
theorem safe_any (B g n i : Nat) (zs : List Int) (fl b : Bool) (w : World) (_hn : n ≤ 1048576) (_hi : i ≤ 1048577) (c1 : w.cell? ⟨B, 1, none⟩ = some (.slice (some ⟨g, 0, none⟩) n n))
    (hz : ∀ k, k < n → w.cell? ⟨g, k, none⟩ = some (.int .u8 (zs.getD k 0))) (hb : safe zs n fl i = b) :
    Calls Try.prog 35 #[.pointer (some ⟨B, 0, none⟩), .int .i64 i, .bool fl] w fun e w' => e = .returned (.bool b) ∧ w = w' := by
  by_cases hlt : i < n
  · have hck := hz i hlt
    obtain ⟨c, hc⟩ : ∃ c, c = zs.getD i 0 := ⟨_, rfl⟩
    rw [← hc] at hck
    have hs : safe zs n fl i = (!(blank c || brk c) && !(fl && flowI c)) := by
      unfold safe; rw [← hc, Bool.eq_iff_iff]; simp [hlt]; cases blank c <;> cases brk c <;> cases fl <;> cases flowI c <;> simp
    rw [hs] at hb
    clear hs hz hc
    cases h1 : (blank c || brk c) with
    | true =>
      rw [h1] at hb; simp at hb; subst hb
      have H1 : Hid ((blank c || brk c) = true) := h1
      clear h1
      go_enter Try.func35, Try.ntmps35
      go_wp2_with (go_at_call 39; refine (bob_any c _ H1.out _).mono ?_; rintro e w' ⟨rfl, rfl⟩)
      go_ret; exact ⟨rfl, rfl⟩
    | false =>
      rw [h1] at hb
      have H1 : Hid ((blank c || brk c) = false) := h1
      clear h1
      cases fl with
      | false =>
        simp at hb; subst hb
        go_enter Try.func35, Try.ntmps35
        go_wp2_with (go_at_call 39; refine (bob_any c _ H1.out _).mono ?_; rintro e w' ⟨rfl, rfl⟩)
        go_ret; exact ⟨rfl, rfl⟩
      | true =>
        cases h2 : flowI c with
        | true =>
          rw [h2] at hb; simp at hb; subst hb
          have H2 : Hid (flowI c = true) := h2
          clear h2
          go_enter Try.func35, Try.ntmps35
          go_wp2_with (first
            | (go_at_call 39; refine (bob_any c _ H1.out _).mono ?_; rintro e w' ⟨rfl, rfl⟩)
            | (go_at_call 36; refine (at_bool (flow_any c _) H2.out).mono ?_; rintro e w' ⟨rfl, rfl⟩))
          go_ret; exact ⟨rfl, rfl⟩
        | false =>
          rw [h2] at hb; simp at hb; subst hb
          have H2 : Hid (flowI c = false) := h2
          clear h2
          go_enter Try.func35, Try.ntmps35
          go_wp2_with (first
            | (go_at_call 39; refine (bob_any c _ H1.out _).mono ?_; rintro e w' ⟨rfl, rfl⟩)
            | (go_at_call 36; refine (at_bool (flow_any c _) H2.out).mono ?_; rintro e w' ⟨rfl, rfl⟩))
          go_ret; exact ⟨rfl, rfl⟩
  · have hs : safe zs n fl i = false := by unfold safe; simp [hlt]
    rw [hs] at hb; subst hb
    clear hz hs
    go_enter Try.func35, Try.ntmps35
    go_wp2
    go_ret; exact ⟨rfl, rfl⟩

theorem safe_next (B g n i : Nat) (zs : List Int) (fl : Bool) (w : World) (hn : n ≤ 1048576) (hi : i < n) (c1 : w.cell? ⟨B, 1, none⟩ = some (.slice (some ⟨g, 0, none⟩) n n))
    (hz : ∀ k, k < n → w.cell? ⟨g, k, none⟩ = some (.int .u8 (zs.getD k 0))) :
    Calls Try.prog 35 #[.pointer (some ⟨B, 0, none⟩), .int .i64 ((i : Int) + 1), .bool fl] w fun e w' => e = .returned (.bool (safe zs n fl (i + 1))) ∧ w = w' := by
  have h := safe_any B g n (i + 1) zs fl _ w hn (by omega) c1 hz rfl
  rwa [show ((i + 1 : Nat) : Int) = (i : Int) + 1 from by omega] at h

/-- What plainLine's loop knows: it has come to i, and the run ends at e. -/
structure Run (zs : List Int) (n : Nat) (fl : Bool) (p e i : Nat) : Prop where
  pe : p ≤ e
  ei : e ≤ i
  i_n : i ≤ n
  go : ∀ k, p ≤ k → k < i → stop zs n fl k = false
  bl : ∀ k, e ≤ k → k < i → blank (zs.getD k 0) = true
  last : p < e → blank (zs.getD (e - 1) 0) = false

theorem Run.blank {zs : List Int} {n : Nat} {fl : Bool} {p e i : Nat} (h : Run zs n fl p e i) (hi : i < n) (hb : blank (zs.getD i 0) = true) : Run zs n fl p e (i + 1) := by
  refine ⟨h.pe, by have := h.ei; omega, by omega, fun k h1 h2 => ?_, fun k h1 h2 => ?_, h.last⟩
  · by_cases e : k = i
    · subst e
      have hc : zs.getD k 0 = 32 ∨ zs.getD k 0 = 9 := of_decide_eq_true hb
      unfold stop
      rcases hc with hc | hc <;> rw [hc] <;> simp [brk, flowI]
    · exact h.go k h1 (by omega)
  · by_cases e : k = i
    · subst e; exact hb
    · exact h.bl k h1 (by omega)

theorem Run.step {zs : List Int} {n : Nat} {fl : Bool} {p e i : Nat} (h : Run zs n fl p e i) (hi : i < n) (hb : Qxb6000609a.blank (zs.getD i 0) = false) (hs : stop zs n fl i = false) : Run zs n fl p (i + 1) (i + 1) := by
  refine ⟨by have := h.pe; have := h.ei; omega, Nat.le_refl _, by omega, fun k h1 h2 => ?_, fun k h1 h2 => by omega, fun _ => by simpa using hb⟩
  by_cases e : k = i
  · subst e; exact hs
  · exact h.go k h1 (by omega)
end Go.Proofs.Qxb6000609a
