import Derived.Test.Qxb6000609aPlain3
namespace Go.Proofs.Qxb6000609a
open Go.RowKit

theorem ret_bool {a b : Bool} (h : a = b) : Ending.returned (.bool a) = .returned (.bool b) := by rw [h]

set_option maxHeartbeats 1600000 in
/-- The law's own test of a stop says what plainLine's does. -/
theorem ylStop_any (g n i : Nat) (zs : List Int) (fl : Bool) (w : World) (hn : n ≤ 1048576) (hi : i < n) (h0 : i = 0 → zs.getD 0 0 ≠ 35)
    (hz : ∀ k, k < n → w.cell? ⟨g, k, none⟩ = some (.int .u8 (zs.getD k 0))) :
    Calls Try.prog 15 #[.slice (some ⟨g, 0, none⟩) n n, .int .i64 i, .bool fl] w fun e w' => e = .returned (.bool (stop zs n fl i)) ∧ w = w' := by
  have hck := hz i hi
  obtain ⟨c, hc⟩ : ∃ c, c = zs.getD i 0 := ⟨_, rfl⟩
  rw [← hc] at hck
  have hst : stop zs n fl i = decide (brk c = true ∨ (c = 58 ∧ safe zs n fl (i + 1) = false) ∨ (c = 35 ∧ blank (zs.getD (i - 1) 0) = true) ∨ (fl = true ∧ flowI c = true)) := by unfold stop; rw [← hc]
  have HST : Hid (stop zs n fl i = decide (brk c = true ∨ (c = 58 ∧ safe zs n fl (i + 1) = false) ∨ (c = 35 ∧ blank (zs.getD (i - 1) 0) = true) ∨ (fl = true ∧ flowI c = true))) := hst
  have HZ : Hid (∀ k, k < n → w.cell? ⟨g, k, none⟩ = some (.int .u8 (zs.getD k 0))) := hz
  have HC : Hid (c = zs.getD i 0) := hc
  have H0 : Hid (i = 0 → zs.getD 0 0 ≠ 35) := h0
  clear hc hst hz h0
  cases k2 : brk c with
  | true =>
    go_enter Try.func15, Try.ntmps15
    go_wp2_with (first | (go_at_call 29; refine (ylBreak_any _ _).mono ?_; rintro e w' ⟨rfl, rfl⟩) | (go_at_call 14; refine (ylBlank_any _ _).mono ?_; rintro e w' ⟨rfl, rfl⟩) | (go_at_call 30; refine (ylFlow_any _ _).mono ?_; rintro e w' ⟨rfl, rfl⟩))
    go_ret
    exact ⟨ret_bool (by rw [HST.out, k2]; simp), rfl⟩
  | false =>
    by_cases h58 : c = 58
    · subst h58
      have b35 : flowI 58 = false := rfl
      by_cases hend : i + 1 < n
      · have hcm := HZ.out (i + 1) hend
        obtain ⟨m, hm⟩ : ∃ m, m = zs.getD (i + 1) 0 := ⟨_, rfl⟩
        rw [← hm] at hcm
        have hsf : safe zs n fl (i + 1) = (!(blank m || brk m) && !(fl && flowI m)) := by
          unfold safe; rw [← hm, Bool.eq_iff_iff]; simp [hend]; cases blank m <;> cases brk m <;> cases fl <;> cases flowI m <;> simp
        have HSF : Hid (safe zs n fl (i + 1) = (!(blank m || brk m) && !(fl && flowI m))) := hsf
        clear hsf hm
        cases k3 : blank m with
        | true =>
          go_enter Try.func15, Try.ntmps15
          go_wp2_with (first | (go_at_call 29; refine (ylBreak_any _ _).mono ?_; rintro e w' ⟨rfl, rfl⟩) | (go_at_call 14; refine (ylBlank_any _ _).mono ?_; rintro e w' ⟨rfl, rfl⟩) | (go_at_call 30; refine (ylFlow_any _ _).mono ?_; rintro e w' ⟨rfl, rfl⟩))
          go_ret
          exact ⟨ret_bool (by rw [HST.out, HSF.out, k2, k3]; simp), rfl⟩
        | false =>
          cases k4 : brk m with
          | true =>
            go_enter Try.func15, Try.ntmps15
            go_wp2_with (first | (go_at_call 29; refine (ylBreak_any _ _).mono ?_; rintro e w' ⟨rfl, rfl⟩) | (go_at_call 14; refine (ylBlank_any _ _).mono ?_; rintro e w' ⟨rfl, rfl⟩) | (go_at_call 30; refine (ylFlow_any _ _).mono ?_; rintro e w' ⟨rfl, rfl⟩))
            go_ret
            exact ⟨ret_bool (by rw [HST.out, HSF.out, k2, k3, k4]; simp), rfl⟩
          | false =>
            cases fl with
            | false =>
              go_enter Try.func15, Try.ntmps15
              go_wp2_with (first | (go_at_call 29; refine (ylBreak_any _ _).mono ?_; rintro e w' ⟨rfl, rfl⟩) | (go_at_call 14; refine (ylBlank_any _ _).mono ?_; rintro e w' ⟨rfl, rfl⟩) | (go_at_call 30; refine (ylFlow_any _ _).mono ?_; rintro e w' ⟨rfl, rfl⟩))
              go_ret
              exact ⟨ret_bool (by rw [HST.out, HSF.out, k2, k3, k4]; simp), rfl⟩
            | true =>
              cases k5 : flowI m with
              | true =>
                go_enter Try.func15, Try.ntmps15
                go_wp2_with (first | (go_at_call 29; refine (ylBreak_any _ _).mono ?_; rintro e w' ⟨rfl, rfl⟩) | (go_at_call 14; refine (ylBlank_any _ _).mono ?_; rintro e w' ⟨rfl, rfl⟩) | (go_at_call 30; refine (ylFlow_any _ _).mono ?_; rintro e w' ⟨rfl, rfl⟩))
                go_ret
                exact ⟨ret_bool (by rw [HST.out, HSF.out, k2, k3, k4, k5]; simp), rfl⟩
              | false =>
                go_enter Try.func15, Try.ntmps15
                go_wp2_with (first | (go_at_call 29; refine (ylBreak_any _ _).mono ?_; rintro e w' ⟨rfl, rfl⟩) | (go_at_call 14; refine (ylBlank_any _ _).mono ?_; rintro e w' ⟨rfl, rfl⟩) | (go_at_call 30; refine (ylFlow_any _ _).mono ?_; rintro e w' ⟨rfl, rfl⟩))
                go_ret
                exact ⟨ret_bool (by rw [HST.out, HSF.out, k2, k3, k4, k5, b35]; simp), rfl⟩
      · have hsf : safe zs n fl (i + 1) = false := by unfold safe; simp [hend]
        have HSF : Hid (safe zs n fl (i + 1) = false) := hsf
        clear hsf
        go_enter Try.func15, Try.ntmps15
        go_wp2_with (first | (go_at_call 29; refine (ylBreak_any _ _).mono ?_; rintro e w' ⟨rfl, rfl⟩) | (go_at_call 14; refine (ylBlank_any _ _).mono ?_; rintro e w' ⟨rfl, rfl⟩) | (go_at_call 30; refine (ylFlow_any _ _).mono ?_; rintro e w' ⟨rfl, rfl⟩))
        go_ret
        exact ⟨ret_bool (by rw [HST.out, HSF.out, k2]; simp), rfl⟩
    have n58 : (c == 58) = false := by simpa using h58
    by_cases h35 : c = 35
    · subst h35
      have hi1 : 1 ≤ i := by
        rcases Nat.eq_zero_or_pos i with e | e
        · subst e
          exact absurd HC.out.symm (H0.out rfl)
        · exact e
      have hcp := HZ.out (i - 1) (by omega)
      obtain ⟨d, hd⟩ : ∃ d, d = zs.getD (i - 1) 0 := ⟨_, rfl⟩
      rw [← hd] at hcp
      have HD : Hid (d = zs.getD (i - 1) 0) := hd
      clear hd
      have b35 : flowI 35 = false := rfl
      cases k3 : blank d with
      | true =>
        go_enter Try.func15, Try.ntmps15
        go_wp2_with (first | (go_at_call 29; refine (ylBreak_any _ _).mono ?_; rintro e w' ⟨rfl, rfl⟩) | (go_at_call 14; refine (ylBlank_any _ _).mono ?_; rintro e w' ⟨rfl, rfl⟩) | (go_at_call 30; refine (ylFlow_any _ _).mono ?_; rintro e w' ⟨rfl, rfl⟩))
        go_ret
        exact ⟨ret_bool (by rw [HST.out, ← HD.out, k2, k3]; simp), rfl⟩
      | false =>
        cases fl
        all_goals
          go_enter Try.func15, Try.ntmps15
          go_wp2_with (first | (go_at_call 29; refine (ylBreak_any _ _).mono ?_; rintro e w' ⟨rfl, rfl⟩) | (go_at_call 14; refine (ylBlank_any _ _).mono ?_; rintro e w' ⟨rfl, rfl⟩) | (go_at_call 30; refine (ylFlow_any _ _).mono ?_; rintro e w' ⟨rfl, rfl⟩))
          go_ret
          exact ⟨ret_bool (by rw [HST.out, ← HD.out, k2, k3, b35]; simp), rfl⟩
    have n35 : (c == 35) = false := by simpa using h35
    cases fl with
    | false =>
      have hns : stop zs n false i = false := by rw [HST.out, k2]; simp [h58, h35]
      have HNS : Hid (stop zs n false i = false) := hns
      clear hns h58 h35
      go_enter Try.func15, Try.ntmps15
      go_wp2_with (first | (go_at_call 29; refine (ylBreak_any _ _).mono ?_; rintro e w' ⟨rfl, rfl⟩) | (go_at_call 14; refine (ylBlank_any _ _).mono ?_; rintro e w' ⟨rfl, rfl⟩) | (go_at_call 30; refine (ylFlow_any _ _).mono ?_; rintro e w' ⟨rfl, rfl⟩))
      go_ret
      exact ⟨ret_bool HNS.out.symm, rfl⟩
    | true =>
      have hns : stop zs n true i = flowI c := by rw [HST.out, k2]; simp [h58, h35]
      have HNS : Hid (stop zs n true i = flowI c) := hns
      clear hns h58 h35
      cases k4 : flowI c with
      | true =>
        go_enter Try.func15, Try.ntmps15
        go_wp2_with (first | (go_at_call 29; refine (ylBreak_any _ _).mono ?_; rintro e w' ⟨rfl, rfl⟩) | (go_at_call 14; refine (ylBlank_any _ _).mono ?_; rintro e w' ⟨rfl, rfl⟩) | (go_at_call 30; refine (ylFlow_any _ _).mono ?_; rintro e w' ⟨rfl, rfl⟩))
        go_ret
        exact ⟨ret_bool (by rw [HNS.out, k4]), rfl⟩
      | false =>
        go_enter Try.func15, Try.ntmps15
        go_wp2_with (first | (go_at_call 29; refine (ylBreak_any _ _).mono ?_; rintro e w' ⟨rfl, rfl⟩) | (go_at_call 14; refine (ylBlank_any _ _).mono ?_; rintro e w' ⟨rfl, rfl⟩) | (go_at_call 30; refine (ylFlow_any _ _).mono ?_; rintro e w' ⟨rfl, rfl⟩))
        go_ret
        exact ⟨ret_bool (by rw [HNS.out, k4]), rfl⟩
end Go.Proofs.Qxb6000609a
