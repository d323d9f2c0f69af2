import Derived.Test.Qxb6601249aSort
import Derived.RegionTactic
namespace Go.Proofs.Qxb6601249a
open Go.RowKit

/-- An inPlay at block B. -/
structure IP (w : World) (B : Nat) (f : Nat → Int) (nx : Int) (cl : Bool) : Prop where
  arr : Arr w B f
  nx : w.cell? ⟨B, 16, none⟩ = some (.int .i64 nx)
  cl : w.cell? ⟨B, 17, none⟩ = some (.bool cl)

theorem cge_yes {L x : Int} {g : Nat → Int} {k c : Nat} (hc : c = cge L g k) (hx : x = g k) (h : L ≤ x) : c + 1 = cge L g (k + 1) := by
  simp only [cge]; rw [if_pos (by omega), hc]
theorem cge_no {L x : Int} {g : Nat → Int} {k c : Nat} (hc : c = cge L g k) (hx : x = g k) (h : ¬ L ≤ x) : c = cge L g (k + 1) := by
  simp only [cge]; rw [if_neg (by omega), hc]; rfl
theorem vd_hi {g : Nat → Int} {t : Int} {c : Nat} (ht : t = top g 15) (h : 8 ≤ t) (hc : c = cge (t - 1) g 16) : decide (6 ≤ (c : Int)) = verdict g := by
  unfold verdict; rw [← ht, Bool.eq_iff_iff]; simp only [decide_eq_true_eq, least, if_pos h, ← hc]; omega
theorem vd_mid {g : Nat → Int} {t : Int} {c : Nat} (ht : t = top g 15) (h : ¬ 8 ≤ t) (h4 : 4 ≤ t) (hc : c = cge t g 16) : decide (6 ≤ (c : Int)) = verdict g := by
  unfold verdict; rw [← ht, Bool.eq_iff_iff]; simp only [decide_eq_true_eq, least, if_neg h, ← hc]; omega
theorem vd_lo {g : Nat → Int} {t : Int} (ht : t = top g 15) (h4 : ¬ 4 ≤ t) : false = verdict g := by
  unfold verdict; rw [← ht]; simp [h4]
theorem ip_end {w1 : World} {B n : Nat} {f g : Nat → Int} {v nx : Int} {cl b : Bool} (hA : Arr w1 B g) (c16 : w1.cell? ⟨B, 16, none⟩ = some (.int .i64 n)) (c17 : w1.cell? ⟨B, 17, none⟩ = some (.bool cl))
    (hg : g = upd f n v) (hb : b = verdict g) (_ : True) : IP ((w1.setCell ⟨B, 16, none⟩ (.int .i64 nx)).setCell ⟨B, 17, none⟩ (.bool b)) B (upd f n v) nx (verdict (upd f n v)) := by
  rw [← hg, ← hb]
  refine ⟨⟨fun k hk => ?_, fun k => by rw [World.frozen?_setCell, World.frozen?_setCell]; exact hA.fz k⟩, ?_, ?_⟩
  · rw [World.cell?_setCell_other _ _ _ _ (fun h => by cases h; omega), World.cell?_setCell_other _ _ _ _ (fun h => by cases h; omega)]; exact hA.cell k hk
  · rw [World.cell?_setCell_other _ _ _ _ (fun h => by cases h)]; exact World.cell?_setCell_same _ _ _ c16
  · exact World.cell?_setCell_same _ _ _ (u := .bool cl) (by rw [World.cell?_setCell_other _ _ _ _ (fun h => by cases h)]; exact c17)

theorem max_top (B : Nat) (f : Nat → Int) (t : Int) (ht : t = top f 15) (w : World) (hc : ∀ k, k < 16 → w.cell? ⟨B, k, none⟩ = some (.int .i64 (f k))) :
    Calls Try.prog 11 #[.slice (some ⟨B, 0, none⟩) 16 16] w fun e w' => e = .returned (.int .i64 t) ∧ w = w' := by
  rw [ht]; exact max_any B f w hc

theorem run_index_row (f : Nat → Int) (w : World) : ∀ k : Nat, k < 16 → (Instr.index 22 (.agg (row f).toArray) (.int .i64 (k : Int))).run Try.prog w = .ok (.int .i64 (f k)) w
  | 0, _ => by kernel_rfl
  | 1, _ => by kernel_rfl
  | 2, _ => by kernel_rfl
  | 3, _ => by kernel_rfl
  | 4, _ => by kernel_rfl
  | 5, _ => by kernel_rfl
  | 6, _ => by kernel_rfl
  | 7, _ => by kernel_rfl
  | 8, _ => by kernel_rfl
  | 9, _ => by kernel_rfl
  | 10, _ => by kernel_rfl
  | 11, _ => by kernel_rfl
  | 12, _ => by kernel_rfl
  | 13, _ => by kernel_rfl
  | 14, _ => by kernel_rfl
  | 15, _ => by kernel_rfl
  | n + 16, h => absurd h (by omega)

set_option maxHeartbeats 1600000 in
set_option maxRecDepth 100000 in
theorem add_any (B n : Nat) (f : Nat → Int) (v : Int) (cl : Bool) (w : World) (hn : n < 16) (hP : IP w B f n cl) (hf : ∀ k, k < 16 → f k ≤ 9223372036854775807) (hv : v ≤ 9223372036854775807) :
    Calls Try.prog 10 #[.pointer (some ⟨B, 0, none⟩), .int .i64 v] w fun e w' => e = .returned (.tuple #[]) ∧ IP w' B (upd f n v) (((n + 1) % 16 : Nat) : Int) (verdict (upd f n v)) ∧ Below B w w' := by
  obtain ⟨hA, c16, c17⟩ := hP
  have cn := hA.cell n hn
  have fn := hA.fz n
  have f16 := hA.fz 16
  have f17 := hA.fz 17
  have b0 : (0 : Int) ≤ (n : Int) := by omega
  have b1 : (n : Int) < 16 := by omega
  go_enter Try.func10, Try.ntmps10
  go_wp2
  go_region
  have hA1 : Arr (w.setCell ⟨B, n, none⟩ (.int .i64 v)).drew B (upd f n v) := ⟨(hA.set n v hn).cell, (hA.set n v hn).fz⟩
  have c16' : (w.setCell ⟨B, n, none⟩ (.int .i64 v)).drew.cell? ⟨B, 16, none⟩ = some (.int .i64 n) := (World.cell?_setCell_other _ _ _ _ (fun h => by cases h; omega)).trans c16
  have c17' : (w.setCell ⟨B, n, none⟩ (.int .i64 v)).drew.cell? ⟨B, 17, none⟩ = some (.bool cl) := (World.cell?_setCell_other _ _ _ _ (fun h => by cases h; omega)).trans c17
  have hb1 : Below B w (w.setCell ⟨B, n, none⟩ (.int .i64 v)).drew := ((Below.refl B w).setCell (Nat.le_refl _) _).drew
  obtain ⟨w1, hw1⟩ : ∃ w1, w1 = (w.setCell ⟨B, n, none⟩ (.int .i64 v)).drew := ⟨_, rfl⟩
  rw [← hw1] at hA1 c16' c17' hb1 ⊢
  obtain ⟨g, hg⟩ : ∃ g, g = upd f n v := ⟨_, rfl⟩
  rw [← hg] at hA1
  have HG : Hid (g = upd f n v) := hg
  have hf1 : ∀ k, k < 16 → g k ≤ 9223372036854775807 := by
    intro k hk; rw [hg]; unfold upd; split
    · exact hv
    · exact hf k hk
  obtain ⟨t, ht⟩ : ∃ t, t = top g 15 := ⟨_, rfl⟩
  have htm : t ≤ 9223372036854775807 := by
    obtain ⟨k, hk, e⟩ := top_in g 15
    rw [ht, e]; exact hf1 k (by omega)
  have HT : Hid (t = top g 15) := ht
  have HA : Hid (Arr w1 B g) := hA1
  have HB : Hid (Below B w w1) := hb1
  have g16 := hA1.fz 16
  have g17 := hA1.fz 17
  clear hA cn fn c16 c17 f16 f17 hf hf1 hw1 hg ht hA1 hb1
  by_cases h8 : 8 ≤ t
  · go_wp2_with (first
      | (go_at_call 11; refine (max_top B g t HT.out _ ?_).mono ?_; (intro k hk; rw [World.cell?_setCell_other _ _ _ _ (fun h => by cases h; omega)]; exact HA.out.cell k hk); rintro e w' ⟨rfl, rfl⟩)
      | (refine wpList_load_mid rfl 22 (.tmp 39) rfl B 0 rfl (row g) _ ?_ Try.underlying22 rfl (by rw [row_length]; exact info22) ?_; (exact Arr.range (fun k hk => by rw [World.cell?_setCell_other _ _ _ _ (fun h => by cases h; omega)]; exact HA.out.cell k hk))))
    go_loop [6, 41] (fun st si => ∃ (k c : Nat), k ≤ 16 ∧ c ≤ k ∧ si = .int .i64 k ∧ st = .int .i64 c ∧ Hid (c = cge (t - 1) g k)) (fun _ si => 16 - (intOf si).toNat)
    case atStart => exact ⟨0, 0, by omega, by omega, rfl, rfl, rfl⟩
    case round =>
      obtain ⟨k, c, hk, hck, rfl, rfl, HC⟩ := hrel
      by_cases hlt : k < 16
      · have hidx := fun w => run_index_row g w k hlt
        obtain ⟨x, hx⟩ : ∃ x, x = g k := ⟨_, rfl⟩
        rw [← hx] at hidx
        have HX : Hid (x = g k) := hx
        clear hx
        by_cases hge : t - 1 ≤ x
        · go_wp2
          go_round
          case rel => exact ⟨k + 1, c + 1, by omega, by omega, by go_num, by go_num, cge_yes HC.out HX.out hge⟩
          case measure => simp [intOf]; omega
        · go_wp2
          go_round
          case rel => exact ⟨k + 1, c, by omega, by omega, by go_num, rfl, cge_no HC.out HX.out (by omega)⟩
          case measure => simp [intOf]; omega
      · have ek : k = 16 := by omega
        subst ek
        go_wp2
        go_end0
        refine ⟨rfl, ?_, (HB.out.setCell (Nat.le_refl _) _).setCell (Nat.le_refl _) _⟩
        exact ip_end HA.out c16' c17' HG.out (vd_hi HT.out h8 HC.out) trivial
  · go_wp2_with (first
      | (go_at_call 11; refine (max_top B g t HT.out _ ?_).mono ?_; (intro k hk; rw [World.cell?_setCell_other _ _ _ _ (fun h => by cases h; omega)]; exact HA.out.cell k hk); rintro e w' ⟨rfl, rfl⟩)
      | (refine wpList_load_mid rfl 22 (.tmp 39) rfl B 0 rfl (row g) _ ?_ Try.underlying22 rfl (by rw [row_length]; exact info22) ?_; (exact Arr.range (fun k hk => by rw [World.cell?_setCell_other _ _ _ _ (fun h => by cases h; omega)]; exact HA.out.cell k hk))))
    go_loop [6, 41] (fun st si => ∃ (k c : Nat), k ≤ 16 ∧ c ≤ k ∧ si = .int .i64 k ∧ st = .int .i64 c ∧ Hid (c = cge (t) g k)) (fun _ si => 16 - (intOf si).toNat)
    case atStart => exact ⟨0, 0, by omega, by omega, rfl, rfl, rfl⟩
    case round =>
      obtain ⟨k, c, hk, hck, rfl, rfl, HC⟩ := hrel
      by_cases hlt : k < 16
      · have hidx := fun w => run_index_row g w k hlt
        obtain ⟨x, hx⟩ : ∃ x, x = g k := ⟨_, rfl⟩
        rw [← hx] at hidx
        have HX : Hid (x = g k) := hx
        clear hx
        by_cases hge : t ≤ x
        · go_wp2
          go_round
          case rel => exact ⟨k + 1, c + 1, by omega, by omega, by go_num, by go_num, cge_yes HC.out HX.out hge⟩
          case measure => simp [intOf]; omega
        · go_wp2
          go_round
          case rel => exact ⟨k + 1, c, by omega, by omega, by go_num, rfl, cge_no HC.out HX.out (by omega)⟩
          case measure => simp [intOf]; omega
      · have ek : k = 16 := by omega
        subst ek
        by_cases h4 : 4 ≤ t
        · go_wp2
          go_end0
          refine ⟨rfl, ?_, (HB.out.setCell (Nat.le_refl _) _).setCell (Nat.le_refl _) _⟩
          exact ip_end HA.out c16' c17' HG.out (vd_mid HT.out (by omega) h4 HC.out) trivial
        · go_wp2
          go_end0
          refine ⟨rfl, ?_, (HB.out.setCell (Nat.le_refl _) _).setCell (Nat.le_refl _) _⟩
          exact ip_end HA.out c16' c17' HG.out (vd_lo HT.out (by omega)) trivial
end Go.Proofs.Qxb6601249a
