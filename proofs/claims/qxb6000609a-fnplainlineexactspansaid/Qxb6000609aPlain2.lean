import Derived.Test.Qxb6000609aPlain1
namespace Go.Proofs.Qxb6000609a
open Go.RowKit

/-- x is where the run ends: behind it blanks alone, up to a stop or the end. -/
def Span (zs : List Int) (n : Nat) (fl : Bool) (p x : Nat) : Prop := ∃ i, Run zs n fl p x i ∧ (i < n → blank (zs.getD i 0) = false ∧ stop zs n fl i = true)

set_option maxHeartbeats 400000 in
theorem plain_zero (B : Nat) (a : Option Addr) (fl : Bool) (w : World) (hR : Rdr w B 0 a 0) :
    Calls Try.prog 28 #[.pointer (some ⟨B, 0, none⟩), .bool fl] w fun e w' => e = .returned (.int .i64 0) ∧ w' = w.setCell ⟨B, 2, none⟩ (.int .i64 0) := by
  obtain ⟨c1, c2, fz⟩ := hR
  go_enter Try.func28, Try.ntmps28
  go_wp2
  go_loop [6, 7] (fun se si => se = .int .i64 0 ∧ si = .int .i64 0) (fun _ _ => 0)
  case atStart => exact ⟨rfl, rfl⟩
  case round =>
    obtain ⟨rfl, rfl⟩ := hrel
    go_wp2
    go_ret
    exact ⟨rfl, rfl⟩

set_option maxHeartbeats 3200000 in
theorem plain_any (B g n p : Nat) (zs : List Int) (fl : Bool) (w : World) (hn : n ≤ 1048576) (hp : p ≤ n) (h0 : p = 0 → zs.getD 0 0 ≠ 35) (hR : Rdr w B n (some ⟨g, 0, none⟩) p)
    (hz : ∀ k, k < n → w.cell? ⟨g, k, none⟩ = some (.int .u8 (zs.getD k 0))) :
    Calls Try.prog 28 #[.pointer (some ⟨B, 0, none⟩), .bool fl] w fun e w' => ∃ x : Nat, e = .returned (.int .i64 x) ∧ w' = w.setCell ⟨B, 2, none⟩ (.int .i64 x) ∧ Span zs n fl p x := by
  obtain ⟨c1, c2, fz⟩ := hR
  have HZ : Hid (∀ k, k < n → w.cell? ⟨g, k, none⟩ = some (.int .u8 (zs.getD k 0))) := hz
  have H0 : Hid (p = 0 → zs.getD 0 0 ≠ 35) := h0
  clear hz h0
  go_enter Try.func28, Try.ntmps28
  go_wp2
  go_loop [6, 7] (fun se si => ∃ x i : Nat, se = .int .i64 x ∧ si = .int .i64 i ∧ x ≤ i ∧ p ≤ i ∧ i ≤ n ∧ Hid (Run zs n fl p x i)) (fun _ si => n - (intOf si).toNat)
  case atStart => exact ⟨p, p, rfl, rfl, Nat.le_refl _, Nat.le_refl _, hp, ⟨Nat.le_refl _, Nat.le_refl _, hp, fun k h1 h2 => by omega, fun k h1 h2 => by omega, fun h => by omega⟩⟩
  case round =>
    obtain ⟨x, i, rfl, rfl, hxi, hpi, hin, HR⟩ := hrel
    by_cases hlt : i < n
    · have hck := HZ.out i hlt
      obtain ⟨c, hc⟩ : ∃ c, c = zs.getD i 0 := ⟨_, rfl⟩
      rw [← hc] at hck
      have HC : Hid (c = zs.getD i 0) := hc
      have hst : stop zs n fl i = decide (brk c = true ∨ (c = 58 ∧ safe zs n fl (i + 1) = false) ∨ (c = 35 ∧ blank (zs.getD (i - 1) 0) = true) ∨ (fl = true ∧ flowI c = true)) := by unfold stop; rw [← hc]
      have HST : Hid (stop zs n fl i = decide (brk c = true ∨ (c = 58 ∧ safe zs n fl (i + 1) = false) ∨ (c = 35 ∧ blank (zs.getD (i - 1) 0) = true) ∨ (fl = true ∧ flowI c = true))) := hst
      clear hc hst
      cases k1 : blank c with
      | true =>
        go_wp2_with (go_at_call 33; refine (blank_any _ _).mono ?_; rintro e w' ⟨rfl, rfl⟩)
        go_round
        case rel => exact ⟨x, i + 1, rfl, by go_num, by omega, by omega, by omega, HR.out.blank hlt (by rw [← HC.out]; exact k1)⟩
        case measure => simp [intOf]; omega
      | false =>
        cases k2 : brk c with
        | true =>
          go_wp2_with (first
            | (go_at_call 33; refine (blank_any _ _).mono ?_; rintro e w' ⟨rfl, rfl⟩)
            | (go_at_call 34; refine (brk_any _ _).mono ?_; rintro e w' ⟨rfl, rfl⟩))
          go_ret
          exact ⟨x, rfl, rfl, i, HR.out, fun _ => ⟨by rw [← HC.out]; exact k1, by rw [HST.out, k2]; simp⟩⟩
        | false =>
          by_cases h58 : c = 58
          · subst h58
            have b35 : flowI 58 = false := rfl
            cases k3 : safe zs n fl (i + 1) with
            | false =>
              go_wp2_with (first
                | (go_at_call 33; refine (blank_any _ _).mono ?_; rintro e w' ⟨rfl, rfl⟩)
                | (go_at_call 34; refine (brk_any _ _).mono ?_; rintro e w' ⟨rfl, rfl⟩)
                | (go_at_call 35; refine (safe_next B g n i zs fl _ hn hlt c1 HZ.out).mono ?_; rintro e w' ⟨rfl, rfl⟩))
              go_ret
              exact ⟨x, rfl, rfl, i, HR.out, fun _ => ⟨by rw [← HC.out]; exact k1, by rw [HST.out, k3]; simp⟩⟩
            | true =>
              have hns : stop zs n fl i = false := by rw [HST.out, k2, k3, b35]; simp
              have HNS : Hid (stop zs n fl i = false) := hns
              clear hns
              cases fl
              all_goals
                go_wp2_with (first
                  | (go_at_call 33; refine (blank_any _ _).mono ?_; rintro e w' ⟨rfl, rfl⟩)
                  | (go_at_call 34; refine (brk_any _ _).mono ?_; rintro e w' ⟨rfl, rfl⟩)
                  | (go_at_call 35; refine (safe_next B g n i zs _ _ hn hlt c1 HZ.out).mono ?_; rintro e w' ⟨rfl, rfl⟩)
                  | (go_at_call 36; refine (flow_any _ _).mono ?_; rintro e w' ⟨rfl, rfl⟩))
                go_round
                case rel => exact ⟨i + 1, i + 1, by go_num, by go_num, by omega, by omega, by omega, HR.out.step hlt (by rw [← HC.out]; exact k1) HNS.out⟩
                case measure => simp [intOf]; omega
          have n58 : (c == 58) = false := by simpa using h58
          by_cases h35 : c = 35
          · subst h35
            have hi1 : 1 ≤ i := by
              rcases Nat.eq_zero_or_pos i with e | e
              · subst e
                exact absurd HC.out.symm (H0.out (by omega))
              · exact e
            have hcp := HZ.out (i - 1) (by omega)
            obtain ⟨d, hd⟩ : ∃ d, d = zs.getD (i - 1) 0 := ⟨_, rfl⟩
            rw [← hd] at hcp
            have HD : Hid (d = zs.getD (i - 1) 0) := hd
            clear hd
            have b35 : flowI 35 = false := rfl
            cases k3 : blank d with
            | true =>
              go_wp2_with (first
                | (go_at_call 33; refine (blank_any _ _).mono ?_; rintro e w' ⟨rfl, rfl⟩)
                | (go_at_call 34; refine (brk_any _ _).mono ?_; rintro e w' ⟨rfl, rfl⟩))
              go_ret
              exact ⟨x, rfl, rfl, i, HR.out, fun _ => ⟨by rw [← HC.out]; exact k1, by rw [HST.out, ← HD.out, k3]; simp⟩⟩
            | false =>
              have hns : stop zs n fl i = false := by rw [HST.out, ← HD.out, k2, k3, b35]; simp
              have HNS : Hid (stop zs n fl i = false) := hns
              clear hns
              cases fl
              all_goals
                go_wp2_with (first
                  | (go_at_call 33; refine (blank_any _ _).mono ?_; rintro e w' ⟨rfl, rfl⟩)
                  | (go_at_call 34; refine (brk_any _ _).mono ?_; rintro e w' ⟨rfl, rfl⟩)
                  | (go_at_call 36; refine (flow_any _ _).mono ?_; rintro e w' ⟨rfl, rfl⟩))
                go_round
                case rel => exact ⟨i + 1, i + 1, by go_num, by go_num, by omega, by omega, by omega, HR.out.step hlt (by rw [← HC.out]; exact k1) HNS.out⟩
                case measure => simp [intOf]; omega
          have n35 : (c == 35) = false := by simpa using h35
          cases fl with
          | false =>
            have hns : stop zs n false i = false := by rw [HST.out, k2]; simp [h58, h35]
            have HNS : Hid (stop zs n false i = false) := hns
            clear hns h58 h35
            go_wp2_with (first
              | (go_at_call 33; refine (blank_any _ _).mono ?_; rintro e w' ⟨rfl, rfl⟩)
              | (go_at_call 34; refine (brk_any _ _).mono ?_; rintro e w' ⟨rfl, rfl⟩))
            go_round
            case rel => exact ⟨i + 1, i + 1, by go_num, by go_num, by omega, by omega, by omega, HR.out.step hlt (by rw [← HC.out]; exact k1) HNS.out⟩
            case measure => simp [intOf]; omega
          | true =>
            cases k4 : flowI c with
            | true =>
              clear h58 h35
              go_wp2_with (first
                | (go_at_call 33; refine (blank_any _ _).mono ?_; rintro e w' ⟨rfl, rfl⟩)
                | (go_at_call 34; refine (brk_any _ _).mono ?_; rintro e w' ⟨rfl, rfl⟩)
                | (go_at_call 36; refine (flow_any _ _).mono ?_; rintro e w' ⟨rfl, rfl⟩))
              go_ret
              exact ⟨x, rfl, rfl, i, HR.out, fun _ => ⟨by rw [← HC.out]; exact k1, by rw [HST.out, k4]; simp⟩⟩
            | false =>
              have hns : stop zs n true i = false := by rw [HST.out, k2, k4]; simp [h58, h35]
              have HNS : Hid (stop zs n true i = false) := hns
              clear hns h58 h35
              go_wp2_with (first
                | (go_at_call 33; refine (blank_any _ _).mono ?_; rintro e w' ⟨rfl, rfl⟩)
                | (go_at_call 34; refine (brk_any _ _).mono ?_; rintro e w' ⟨rfl, rfl⟩)
                | (go_at_call 36; refine (flow_any _ _).mono ?_; rintro e w' ⟨rfl, rfl⟩))
              go_round
              case rel => exact ⟨i + 1, i + 1, by go_num, by go_num, by omega, by omega, by omega, HR.out.step hlt (by rw [← HC.out]; exact k1) HNS.out⟩
              case measure => simp [intOf]; omega
    · go_wp2
      go_ret
      exact ⟨x, rfl, rfl, i, HR.out, fun h => absurd h hlt⟩
end Go.Proofs.Qxb6000609a
