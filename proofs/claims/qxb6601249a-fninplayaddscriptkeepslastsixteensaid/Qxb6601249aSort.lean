import Derived.Test.Qxb6601249aPlain
import Derived.WalkKit
import Derived.ProofKit
import Derived.OpenShut
import Derived.WalkSpells
import Derived.Below
import Derived.Deep.QuietTactic
import Derived.BigQuiet
import Derived.Deep.MidRow
namespace Go.Proofs.Qxb6601249a
open Go.RowKit

/-- The sixteen cells of an array. -/
def row (f : Nat → Int) : List Value := (List.range 16).map fun k => Value.int .i64 (f k)
theorem row_length (f : Nat → Int) : (row f).length = 16 := by simp [row]
theorem row_size (f : Nat → Int) : (row f).toArray.size = 16 := by simp [row]
theorem row_get (f : Nat → Int) (k : Nat) (h : k < 16) : (row f)[k]? = some (.int .i64 (f k)) := by simp [row, h]
theorem row_get' {f : Nat → Int} {k : Nat} {v : Value} (h : (row f)[k]? = some v) : k < 16 ∧ v = .int .i64 (f k) := by
  have hk : k < 16 := by have := (List.getElem?_eq_some_iff.1 h).1; rwa [row_length] at this
  rw [row_get f k hk] at h
  exact ⟨hk, (Option.some.inj h).symm⟩
theorem row_one (f : Nat → Int) : (row f).toArray.all (·.oneCell') = true := all_oneCell_toArray (fun v hv => by
  simp only [row, List.mem_map] at hv
  obtain ⟨k, _, rfl⟩ := hv
  rfl)

/-- An array lies at the head of block B. -/
structure Arr (w : World) (B : Nat) (f : Nat → Int) : Prop where
  cell : ∀ k, k < 16 → w.cell? ⟨B, k, none⟩ = some (.int .i64 (f k))
  fz : ∀ k, w.frozen? ⟨B, k, none⟩ = false
theorem Arr.range {w : World} {B : Nat} {f : Nat → Int} (h : ∀ k, k < 16 → w.cell? ⟨B, k, none⟩ = some (.int .i64 (f k))) : w.rangeAt B 0 (row f) := by
  intro j v hv
  obtain ⟨hk, rfl⟩ := row_get' hv
  rw [Nat.zero_add]; exact h j hk
theorem Arr.set {w : World} {B : Nat} {f : Nat → Int} (h : Arr w B f) (i : Nat) (v : Int) (hi : i < 16) : Arr (w.setCell ⟨B, i, none⟩ (.int .i64 v)) B (upd f i v) := by
  refine ⟨fun k hk => ?_, fun k => by rw [World.frozen?_setCell]; exact h.fz k⟩
  by_cases e : k = i
  · subst e; rw [upd_same]; exact World.cell?_setCell_same _ _ _ (h.cell k hi)
  · rw [upd_ne f i v e, World.cell?_setCell_other _ _ _ _ (fun h => by cases h; exact e rfl)]; exact h.cell k hk
theorem Arr.drewN {w : World} {B : Nat} {f : Nat → Int} (h : Arr w B f) (n : Nat) : Arr (w.drewN n) B f := ⟨h.cell, h.fz⟩
theorem below_draws {B : Nat} {a w : World} (h : Below B a w) (n : Nat) : Below B a (w.drewN n) := h.trans ⟨rfl, rfl, rfl, Nat.le_refl _, fun _ _ => rfl⟩

theorem info22 : (Try.prog.info? 22).map (·.size) = some 16 := by kernel_rfl

set_option maxHeartbeats 800000 in
/-- slices.Max of the sixteen. -/
theorem max_any (B : Nat) (f : Nat → Int) (w : World) (hc : ∀ k, k < 16 → w.cell? ⟨B, k, none⟩ = some (.int .i64 (f k))) :
    Calls Try.prog 11 #[.slice (some ⟨B, 0, none⟩) 16 16] w fun e w' => e = .returned (.int .i64 (top f 15)) ∧ w = w' := by
  have HC : Hid (∀ k, k < 16 → w.cell? ⟨B, k, none⟩ = some (.int .i64 (f k))) := hc
  have h0 := hc 0 (by omega)
  clear hc
  go_enter Try.func11, Try.ntmps11
  go_wp2
  go_loop [3, 4] (fun sm si => ∃ k : Nat, 1 ≤ k ∧ k ≤ 16 ∧ si = .int .i64 k ∧ sm = .int .i64 (top f (k - 1))) (fun _ si => 16 - (intOf si).toNat)
  case atStart => exact ⟨1, by omega, by omega, rfl, rfl⟩
  case round =>
    obtain ⟨k, h1, h2, rfl, rfl⟩ := hrel
    by_cases hlt : k < 16
    · have hk := HC.out k hlt
      obtain ⟨m, hm⟩ : ∃ m, m = top f (k - 1) := ⟨_, rfl⟩
      rw [← hm]
      have hs : top f k = if m < f k then f k else m := by
        obtain ⟨j, rfl⟩ : ∃ j, k = j + 1 := ⟨k - 1, by omega⟩
        rw [hm]; rfl
      have HS : Hid (top f k = if m < f k then f k else m) := hs
      clear hs hm
      go_wp2
      go_round
      case rel => exact ⟨k + 1, by omega, by omega, by go_num, by rw [Nat.add_sub_cancel, HS.out]⟩
      case measure => simp [intOf]; omega
    · have e : k = 16 := by omega
      subst e
      go_wp2
      go_ret
      exact ⟨rfl, rfl⟩

/-- What the sort keeps: every count. -/
def Same (f g : Nat → Int) : Prop := ∀ L, cge L g 16 = cge L f 16

theorem there_new (w : World) (Z : Array Value) (hZ : Z.size = 16) (n : Nat) (hn : n = w.heap.size) (t : TypeId) : (w.alloc (.cells Z t)).there n 0 16 := by
  intro j hj
  rw [Nat.zero_add, World.cell?_alloc_at _ _ _ _ hn, World.frozen?_alloc_at _ _ _ _ hn]
  exact ⟨by simp [hZ, hj], rfl⟩
theorem arr_setCells {w : World} {B : Nat} {f : Nat → Int} (ht : w.there B 0 16) (hf : ∀ k, w.frozen? ⟨B, k, none⟩ = false) : Arr (w.setCells B 0 (row f)) B f := by
  have h := World.rangeAt_setCells_same w B 0 (row f) (by rw [row_length]; exact ht)
  refine ⟨fun k hk => ?_, fun k => by rw [World.frozen?_setCells]; exact hf k⟩
  have := h k _ (row_get f k hk)
  rwa [Nat.zero_add] at this
theorem below_setCells {C : Nat} {a : World} (b : Nat) (hb : C ≤ b) : ∀ (vs : List Value) (o : Nat) (w : World), Below C a w → Below C a (w.setCells b o vs)
  | [], _, _, h => h
  | v :: r, o, w, h => by
    rw [World.setCells]
    exact below_setCells b hb r (o + 1) _ (h.setCell (by exact hb) _)

theorem same_swap {f g : Nat → Int} (h : Same f g) (i j : Nat) (hi : i < 16) (hj : j < 16) (e : i ≠ j) : Same f (swp g i j) := fun L => by rw [cge_swap L g i j 16 hi hj e]; exact h L
theorem arr_swap {w : World} {B : Nat} {g : Nat → Int} (h : Arr w B g) (i j : Nat) (hi : i < 16) (hj : j < 16) :
    Arr ((w.setCell ⟨B, i, none⟩ (.int .i64 (g j))).setCell ⟨B, j, none⟩ (.int .i64 (g i))) B (swp g i j) := (h.set i (g j) hi).set j (g i) hj

theorem v_hi (x y : Int) (h : 8 ≤ x) : decide (x - 1 ≤ y) = decide (4 ≤ x ∧ least x ≤ y) := by
  have h4 : 4 ≤ x := by omega
  simp [least, h, h4]
theorem v_mid (x y : Int) (h : ¬ 8 ≤ x) (h4 : 4 ≤ x) : decide (x ≤ y) = decide (4 ≤ x ∧ least x ≤ y) := by
  unfold least; rw [if_neg h]; simp [h4]
theorem v_lo (x y : Int) (h4 : ¬ 4 ≤ x) : false = decide (4 ≤ x ∧ least x ≤ y) := by simp [h4]

theorem near_step' {g : Nat → Int} {i j : Nat} (hj0 : 0 < j) (hji : j ≤ i) (hN : Near g i j) (hlt : g (j - 1) < g j) : Near (swp g (j - 1) j) i (j - 1) := by
  obtain ⟨m, rfl⟩ : ∃ m, j = m + 1 := ⟨j - 1, by omega⟩
  exact near_step g i m hji hN hlt

theorem rel_swap {w0 w wr : World} {f g : Nat → Int} {i j : Nat} {x y : Int} (hj0 : 0 < j) (hji : j ≤ i) (hi : i < 16) (hx : x = g (j - 1)) (hy : y = g j) (hxy : x < y)
    (hA : Arr wr (w.heap.size + 1) g) (hN : Near g i j) (hS : Same f g) (hb : Below w.heap.size w0 wr) (q : Nat) :
    ∃ (j' : Nat) (g' : Nat → Int), j' ≤ i ∧ Value.int .i64 ((j : Int) - 1) = .int .i64 j' ∧
      Arr (((wr.drewN q).setCell ⟨w.heap.size + 1, j - 1, none⟩ (.int .i64 y)).setCell ⟨w.heap.size + 1, j, none⟩ (.int .i64 x)) (w.heap.size + 1) g' ∧ Near g' i j' ∧ Same f g' ∧
      Below w.heap.size w0 (((wr.drewN q).setCell ⟨w.heap.size + 1, j - 1, none⟩ (.int .i64 y)).setCell ⟨w.heap.size + 1, j, none⟩ (.int .i64 x)) := by
  refine ⟨j - 1, swp g (j - 1) j, by omega, by rw [show (j : Int) - 1 = ((j - 1 : Nat) : Int) from by omega], ?_, near_step' hj0 hji hN (by rw [← hx, ← hy]; exact hxy), same_swap hS _ _ (by omega) (by omega) (by omega),
    ((below_draws hb q).setCell (by simp) _).setCell (by simp) _⟩
  rw [hx, hy]
  exact arr_swap (hA.drewN q) _ _ (by omega) (by omega)

theorem ret_bool {a b : Bool} (h : a = b) : Ending.returned (.bool a) = .returned (.bool b) := by rw [h]

set_option maxHeartbeats 3200000 in
set_option maxRecDepth 100000 in
theorem sixth_any (f : Nat → Int) (w : World) (hf : ∀ k, k < 16 → f k ≤ 9223372036854775807) :
    Calls Try.prog 8 #[.agg (row f).toArray] w fun e w' => e = .returned (.bool (verdict f)) ∧ Below w.heap.size w w' := by
  go_enter Try.func8, Try.ntmps8
  go_wp2_with (first
    | (refine wpList_load_mid rfl 22 (.tmp 1) rfl w.heap.size 0 rfl (row f) _ ?_ Try.underlying22 rfl (by rw [row_length]; exact info22) ?_; (exact Arr.range (fun k hk => by rw [World.cell?_alloc_at _ _ _ _ rfl]; simpa using row_get f k hk)))
    | (refine wpList_store_mid rfl 22 (.tmp 3) (.tmp 9) rfl (w.heap.size + 1) 0 (row f).toArray rfl rfl ?_ ?_ (row_one f) ?_; (rw [row_size]; exact there_new _ _ rfl _ (by simp) _); (simpa [row_length] using info22)))
  go_loopw [4] (fun si wr => ∃ (i : Nat) (g : Nat → Int), 1 ≤ i ∧ i ≤ 16 ∧ si = .int .i64 i ∧ Arr wr (w.heap.size + 1) g ∧ Down g i ∧ Same f g ∧ Below w.heap.size w wr) (fun si _ => 16 - (intOf si).toNat)
  case atStart =>
    exact ⟨1, f, by omega, by omega, rfl, arr_setCells (there_new _ _ rfl _ (by simp) _) (fun k => World.frozen?_alloc_at _ _ _ _ (by simp)), fun a b h1 h2 => by omega, fun _ => rfl,
      below_setCells _ (by omega) _ _ _ (((Below.refl _ _).alloc (Nat.le_refl _) _).alloc (by simp) _)⟩
  case round =>
    obtain ⟨i, g, hi1, hi2, rfl, hA, hD, hS, hb⟩ := hrel
    by_cases hlt : i < 16
    · go_wp2
      go_loopw [5, 6] (fun sj _ wx => ∃ (j : Nat) (g : Nat → Int), j ≤ i ∧ sj = .int .i64 j ∧ Arr wx (w.heap.size + 1) g ∧ Near g i j ∧ Same f g ∧ Below w.heap.size w wx) (fun sj _ _ => (intOf sj).toNat)
      case atStart => exact ⟨i, g, Nat.le_refl _, rfl, hA, near_start g i hD, hS, hb⟩
      case round =>
        clear hA hD hS hb
        obtain ⟨j, g, hji, rfl, hA, hN, hS, hb⟩ := hrel
        by_cases hj : 1 ≤ j
        · have c1 := hA.cell (j - 1) (by omega)
          have c2 := hA.cell j (by omega)
          have f1 := hA.fz (j - 1)
          have f2 := hA.fz j
          have hj0 : 0 < j := by omega
          have hj1 : decide (0 < j) = true := by simpa using hj0
          have b0 : (0 : Int) ≤ (j : Int) - 1 := by omega
          have b1 : (j : Int) - 1 < 16 := by omega
          have b2 : (j : Int) < 16 := by omega
          obtain ⟨x, hx⟩ : ∃ x, x = g (j - 1) := ⟨_, rfl⟩
          obtain ⟨y, hy⟩ : ∃ y, y = g j := ⟨_, rfl⟩
          rw [← hx] at c1
          rw [← hy] at c2
          have HX : Hid (x = g (j - 1)) := hx
          have HY : Hid (y = g j) := hy
          clear hx hy
          by_cases hxy : x < y
          · go_wp2
            go_quiet (fail)
            go_wp2
            go_roundw
            case rel => exact rel_swap hj0 hji hlt HX.out HY.out hxy hA hN hS hb _
            case measure => simp [intOf]; omega
          · go_wp2
            go_quiet (fail)
            go_wp2
            go_roundw
            case rel => exact ⟨i + 1, g, by omega, by omega, by go_num, hA.drewN _, near_end g i j hN (Or.inr (by rw [← HX.out, ← HY.out]; omega)), hS, below_draws hb _⟩
            case measure => simp [intOf]; omega
        · have e : j = 0 := by omega
          subst e
          go_wp2
          go_quiet (fail)
          go_wp2
          go_roundw
          case rel => exact ⟨i + 1, g, by omega, by omega, by go_num, hA.drewN _, near_end g i 0 hN (Or.inl rfl), hS, below_draws hb _⟩
          case measure => simp [intOf]; omega
    · have e : i = 16 := by omega
      subst e
      have c0 := hA.cell 0 (by omega)
      have c5 := hA.cell 5 (by omega)
      have hv := verdict_sorted g f hD hS
      have hm : g 0 ≤ 9223372036854775807 := by
        rw [head_top g f hD hS]
        obtain ⟨k, hk, e⟩ := top_in f 15
        rw [e]; exact hf k (by omega)
      obtain ⟨x, hx⟩ : ∃ x, x = g 0 := ⟨_, rfl⟩
      obtain ⟨y, hy⟩ : ∃ y, y = g 5 := ⟨_, rfl⟩
      rw [← hx] at c0 hv hm
      rw [← hy] at c5 hv
      have HV : Hid (decide (4 ≤ x ∧ least x ≤ y) = verdict f) := hv
      clear hv hx hy
      by_cases h8 : 8 ≤ x
      · go_wp2
        go_ret
        exact ⟨ret_bool ((v_hi x y h8).trans HV.out), hb⟩
      · by_cases h4 : 4 ≤ x
        · go_wp2
          go_ret
          exact ⟨ret_bool ((v_mid x y (by omega) h4).trans HV.out), hb⟩
        · go_wp2
          go_ret
          exact ⟨ret_bool ((v_lo x y (by omega)).trans HV.out), hb⟩
end Go.Proofs.Qxb6601249a
