import Derived.Test.Qxb6000609aBase
import Derived.Deep.QuietTactic
import Derived.BigQuiet
namespace Go.Proofs.Qxb6000609a
open Go.RowKit

theorem below_drewN {B : Nat} {a w : World} (h : Below B a w) (n : Nat) : Below B a (w.drewN n) := h.trans ⟨rfl, rfl, rfl, Nat.le_refl _, fun _ _ => rfl⟩

def isSp (c : Int) : Bool := decide (c = 32 ∨ c = 9 ∨ c = 13 ∨ c = 10)
/-- The line feeds among the d bytes from p on. -/
def nls (zs : List Int) (p : Nat) : Nat → Nat
  | 0 => 0
  | d + 1 => nls zs p d + if zs.getD (p + d) 0 = 10 then 1 else 0
/-- The place behind the last line feed among the d bytes from p on, or ls. -/
def lst (zs : List Int) (p : Nat) (ls : Int) : Nat → Int
  | 0 => ls
  | d + 1 => if zs.getD (p + d) 0 = 10 then ((p + d + 1 : Nat) : Int) else lst zs p ls d

def posOf (w : World) (B : Nat) : Int := (w.cell? ⟨B, 3, none⟩).elim 0 intOf

/-- What the parser at block B holds. -/
structure Par (w : World) (B n : Nat) (a : Option Addr) (pos line ls : Int) : Prop where
  c2 : w.cell? ⟨B, 2, none⟩ = some (.slice a n n)
  c3 : w.cell? ⟨B, 3, none⟩ = some (.int .i64 pos)
  c4 : w.cell? ⟨B, 4, none⟩ = some (.int .i64 line)
  c5 : w.cell? ⟨B, 5, none⟩ = some (.int .i64 ls)
  fz : ∀ i, w.frozen? ⟨B, i, none⟩ = false

set_option maxHeartbeats 800000 in
theorem skip_far (B n : Nat) (a : Option Addr) (pos line ls : Int) (w : World) (hp : (n : Int) ≤ pos) (hP : Par w B n a pos line ls) :
    Calls Try.prog 31 #[.pointer (some ⟨B, 0, none⟩)] w fun e w' => e = .returned (.tuple #[]) ∧ Below B w w' ∧ Par w' B n a pos line ls := by
  obtain ⟨c2, c3, c4, c5, fz⟩ := hP
  go_enter Try.func31, Try.ntmps31
  go_wp2
  go_loopw [] (fun wr => wr = w) (fun _ => 0)
  case atStart => rfl
  case round =>
    subst hrel
    go_wp2
    go_quiet (fail)
    go_wp2
    go_end0
    exact ⟨rfl, below_drewN (Below.refl _ _) _, c2, c3, c4, c5, fz⟩

theorem par_blank {w : World} {B n : Nat} {a : Option Addr} {pos L S : Int} (h : Par w B n a pos L S) (k : Nat) (q : Int) :
    Par ((w.drewN k).setCell ⟨B, 3, none⟩ (.int .i64 q)) B n a q L S := by
  obtain ⟨c2, c3, c4, c5, fz⟩ := h
  refine ⟨?_, ?_, ?_, ?_, fun i => by simp [fz]⟩
  · rw [World.cell?_setCell_other _ _ _ _ (by simp)]; exact c2
  · exact World.cell?_setCell_same _ _ _ (u := .int .i64 pos) c3
  · rw [World.cell?_setCell_other _ _ _ _ (by simp)]; exact c4
  · rw [World.cell?_setCell_other _ _ _ _ (by simp)]; exact c5

theorem par_nl {w : World} {B n : Nat} {a : Option Addr} {pos L S : Int} (h : Par w B n a pos L S) (k : Nat) (q M T : Int) :
    Par ((((w.drewN k).setCell ⟨B, 3, none⟩ (.int .i64 q)).setCell ⟨B, 4, none⟩ (.int .i64 M)).setCell ⟨B, 5, none⟩ (.int .i64 T)) B n a q M T := by
  obtain ⟨c2, c3, c4, c5, fz⟩ := par_blank h k q
  refine ⟨?_, ?_, ?_, ?_, fun i => by simp [fz]⟩
  · rw [World.cell?_setCell_other _ _ _ _ (by simp), World.cell?_setCell_other _ _ _ _ (by simp)]; exact c2
  · rw [World.cell?_setCell_other _ _ _ _ (by simp), World.cell?_setCell_other _ _ _ _ (by simp)]; exact c3
  · rw [World.cell?_setCell_other _ _ _ _ (by simp)]; exact World.cell?_setCell_same _ _ _ (u := .int .i64 L) c4
  · exact World.cell?_setCell_same _ _ _ (u := .int .i64 S) (by rw [World.cell?_setCell_other _ _ _ _ (by simp)]; exact c5)

theorem posOf_par {w : World} {B n : Nat} {a : Option Addr} {pos L S : Int} (h : Par w B n a pos L S) : posOf w B = pos := by
  unfold posOf; rw [h.c3]; rfl

theorem all_step {zs : List Int} {p d : Nat} (h : ∀ i, i < d → isSp (zs.getD (p + i) 0) = true) (h' : isSp (zs.getD (p + d) 0) = true) : ∀ i, i < d + 1 → isSp (zs.getD (p + i) 0) = true := by
  intro i hi
  by_cases e : i = d
  · subst e; exact h'
  · exact h i (by omega)


theorem wrap_step (a : Int) (k : Nat) : wrap64 (wrap64 (a + k) + 1) = wrap64 (a + ((k + 1 : Nat) : Int)) := by
  unfold wrap64; omega

theorem rel_nl {wr w : World} {B g n p d q : Nat} {zs : List Int} {line ls L : Int} (hlt : q < n) (hq : q = p + d) (hL : L = wrap64 (line + nls zs p d)) (hc : zs.getD q 0 = 10)
    (hsp : ∀ i, i < d → isSp (zs.getD (p + i) 0) = true) (hbel : Below B w wr) (hP : Par wr B n (some ⟨g, 0, none⟩) ((p + d : Nat) : Int) (wrap64 (line + nls zs p d)) (lst zs p ls d)) (k : Nat) :
    ∃ d : Nat, p + d ≤ n ∧ (∀ i, i < d → isSp (zs.getD (p + i) 0) = true) ∧ Below B w ((((wr.drewN k).setCell ⟨B, 3, none⟩ (.int .i64 ((q : Int) + 1))).setCell ⟨B, 4, none⟩ (.int .i64 (wrap64 (L + 1)))).setCell ⟨B, 5, none⟩ (.int .i64 ((q : Int) + 1))) ∧
      Par ((((wr.drewN k).setCell ⟨B, 3, none⟩ (.int .i64 ((q : Int) + 1))).setCell ⟨B, 4, none⟩ (.int .i64 (wrap64 (L + 1)))).setCell ⟨B, 5, none⟩ (.int .i64 ((q : Int) + 1))) B n (some ⟨g, 0, none⟩) ((p + d : Nat) : Int) (wrap64 (line + nls zs p d)) (lst zs p ls d) := by
  subst hq
  refine ⟨d + 1, by omega, all_step hsp (by rw [hc]; rfl), (((below_drewN hbel k).setCell (Nat.le_refl _) _).setCell (Nat.le_refl _) _).setCell (Nat.le_refl _) _, ?_⟩
  have h := par_nl hP k ((p + d : Nat) + 1) (wrap64 (L + 1)) ((p + d : Nat) + 1)
  have e1 : wrap64 (L + 1) = wrap64 (line + ((nls zs p (d + 1) : Nat) : Int)) := by rw [hL, wrap_step]; simp only [nls, hc, if_true]
  have e2 : lst zs p ls (d + 1) = ((p + d : Nat) : Int) + 1 := by simp only [lst, hc, if_true]; omega
  rw [← e1, e2]
  exact h

theorem rel_bl {wr w : World} {B g n p d q : Nat} {zs : List Int} {line ls : Int} (hlt : q < n) (hq : q = p + d) (hc : isSp (zs.getD q 0) = true) (hc' : zs.getD q 0 ≠ 10)
    (hsp : ∀ i, i < d → isSp (zs.getD (p + i) 0) = true) (hbel : Below B w wr) (hP : Par wr B n (some ⟨g, 0, none⟩) ((p + d : Nat) : Int) (wrap64 (line + nls zs p d)) (lst zs p ls d)) (k : Nat) :
    ∃ d : Nat, p + d ≤ n ∧ (∀ i, i < d → isSp (zs.getD (p + i) 0) = true) ∧ Below B w ((wr.drewN k).setCell ⟨B, 3, none⟩ (.int .i64 ((q : Int) + 1))) ∧
      Par ((wr.drewN k).setCell ⟨B, 3, none⟩ (.int .i64 ((q : Int) + 1))) B n (some ⟨g, 0, none⟩) ((p + d : Nat) : Int) (wrap64 (line + nls zs p d)) (lst zs p ls d) := by
  subst hq
  refine ⟨d + 1, by omega, all_step hsp hc, (below_drewN hbel k).setCell (Nat.le_refl _) _, ?_⟩
  have h := par_blank hP k ((p + d : Nat) + 1)
  have e1 : nls zs p (d + 1) = nls zs p d := by simp only [nls, if_neg hc']; rfl
  have e2 : lst zs p ls (d + 1) = lst zs p ls d := by simp only [lst, if_neg hc']
  rw [e1, e2]
  exact h

set_option maxHeartbeats 1600000 in
theorem skip_near (B g n p : Nat) (zs : List Int) (line ls : Int) (w : World) (hn : n ≤ 1048576) (hp : p ≤ n) (hg : g < B) (hl : wrap64 line = line)
    (hz : ∀ i, i < n → w.cell? ⟨g, i, none⟩ = some (.int .u8 (zs.getD i 0))) (hP : Par w B n (some ⟨g, 0, none⟩) p line ls) :
    Calls Try.prog 31 #[.pointer (some ⟨B, 0, none⟩)] w fun e w' => e = .returned (.tuple #[]) ∧ ∃ d : Nat, p + d ≤ n ∧ (∀ i, i < d → isSp (zs.getD (p + i) 0) = true) ∧ (p + d < n → isSp (zs.getD (p + d) 0) = false) ∧
      Below B w w' ∧ Par w' B n (some ⟨g, 0, none⟩) ((p + d : Nat) : Int) (wrap64 (line + nls zs p d)) (lst zs p ls d) := by
  have HL : Hid (wrap64 line = line) := hl
  clear hl
  go_enter Try.func31, Try.ntmps31
  go_wp2
  go_loopw [] (fun wr => ∃ d : Nat, p + d ≤ n ∧ (∀ i, i < d → isSp (zs.getD (p + i) 0) = true) ∧ Below B w wr ∧ Par wr B n (some ⟨g, 0, none⟩) ((p + d : Nat) : Int) (wrap64 (line + nls zs p d)) (lst zs p ls d)) (fun wr => n - (posOf wr B).toNat)
  case atStart => exact ⟨0, by omega, fun i hi => absurd hi (Nat.not_lt_zero _), Below.refl _ _, by simpa [nls, lst, HL.out] using hP⟩
  case round =>
    obtain ⟨d, hd, hsp, hbel, hPr⟩ := hrel
    have HP : Hid (Par wr B n (some ⟨g, 0, none⟩) ((p + d : Nat) : Int) (wrap64 (line + nls zs p d)) (lst zs p ls d)) := hPr
    obtain ⟨c2, c3, c4, c5, fz⟩ := hPr
    by_cases hlt : p + d < n
    · obtain ⟨q, hq⟩ : ∃ q, q = p + d := ⟨_, rfl⟩
      rw [← hq] at c3 hlt
      have HQ : Hid (q = p + d) := hq
      clear hq
      obtain ⟨L, hL⟩ : ∃ L, L = wrap64 (line + nls zs p d) := ⟨_, rfl⟩
      rw [← hL] at c4
      have HLL : Hid (L = wrap64 (line + nls zs p d)) := hL
      clear hL
      obtain ⟨S, hS⟩ : ∃ S, S = lst zs p ls d := ⟨_, rfl⟩
      rw [← hS] at c5
      have HS : Hid (S = lst zs p ls d) := hS
      clear hS
      have hcz : wr.cell? ⟨g, q, none⟩ = some (.int .u8 (zs.getD q 0)) := (hbel.cell (by exact hg)).trans (hz q hlt)
      obtain ⟨c, hc⟩ : ∃ c, c = zs.getD q 0 := ⟨_, rfl⟩
      rw [← hc] at hcz
      have HC : Hid (c = zs.getD q 0) := hc
      clear hc
      go_wp2
      go_quiet (fail)
      go_wp2
      go_quiet (fail)
      go_wp2
      case roundEnd =>
        have h10 : c = 10 := by simpa using (by assumption : (c == 10) = true)
        go_roundw
        case rel => exact rel_nl hlt HQ.out HLL.out (HC.out ▸ h10) hsp hbel HP.out _
        case measure => rw [posOf_par (par_nl HP.out _ _ _ _), posOf_par HP.out]; have := HQ.out; omega
      case roundEnd =>
        have h10 : c = 32 := by simpa using (by assumption : (c == 32) = true)
        go_roundw
        case rel => exact rel_bl hlt HQ.out (by rw [← HC.out, h10]; rfl) (by rw [← HC.out, h10]; decide) hsp hbel HP.out _
        case measure => rw [posOf_par (par_blank HP.out _ _), posOf_par HP.out]; have := HQ.out; omega
      case roundEnd =>
        have h10 : c = 9 := by simpa using (by assumption : (c == 9) = true)
        go_roundw
        case rel => exact rel_bl hlt HQ.out (by rw [← HC.out, h10]; rfl) (by rw [← HC.out, h10]; decide) hsp hbel HP.out _
        case measure => rw [posOf_par (par_blank HP.out _ _), posOf_par HP.out]; have := HQ.out; omega
      case roundEnd =>
        have h10 : c = 13 := by simpa using (by assumption : (c == 13) = true)
        go_roundw
        case rel => exact rel_bl hlt HQ.out (by rw [← HC.out, h10]; rfl) (by rw [← HC.out, h10]; decide) hsp hbel HP.out _
        case measure => rw [posOf_par (par_blank HP.out _ _), posOf_par HP.out]; have := HQ.out; omega
      have hsp' : isSp c = false := by simp_all [isSp]
      refine bodyPost_ret (results_none rfl _ _ _) rfl ?_
      refine ⟨rfl, d, hd, hsp, fun _ => by rw [← HQ.out, ← HC.out]; exact hsp', below_drewN hbel _, ?_⟩
      obtain ⟨c2, c3, c4, c5, fz⟩ := HP.out
      exact ⟨c2, c3, c4, c5, fz⟩
    · go_wp2
      go_quiet (fail)
      go_wp2
      go_end0
      refine ⟨rfl, d, hd, hsp, fun h => absurd h hlt, below_drewN hbel _, ?_⟩
      obtain ⟨c2, c3, c4, c5, fz⟩ := HP.out
      exact ⟨c2, c3, c4, c5, fz⟩
end Go.Proofs.Qxb6000609a
