import Derived.Test.Qxb6601249aState
namespace Go.Proofs.Qxb6601249a
open Go.RowKit
theorem size_setCells (b : Nat) : ∀ (vs : List Value) (o : Nat) (w : World), (w.setCells b o vs).heap.size = w.heap.size
  | [], _, _ => rfl
  | v :: r, o, w => by rw [World.setCells, size_setCells b r (o + 1)]; simp [World.setCell]
/-- A whole array stored into a block of its own: of the world behind it what is wanted. -/
theorem store_arr {ops : Array Oper} {rest : List Oper} {op : Oper} {a : Act} {w : World} {Q : Exit → Act → World → Prop} (hgd : op.guard = none) (x y : Operand) (ho : op.op = .store 22 x y)
    (B : Nat) (f : Nat → Int) (hx : a.eval x = .pointer (some ⟨B, 0, none⟩)) (hy : a.eval y = .agg (row f).toArray) (ht : w.there B 0 16) (hfz : ∀ k, w.frozen? ⟨B, k, none⟩ = false)
    (h : ∀ w', Arr w' B f → (∀ C a0, C ≤ B → Below C a0 w → Below C a0 w') → w'.heap.size = w.heap.size → (∀ b o, b ≠ B → w'.cell? ⟨b, o, none⟩ = w.cell? ⟨b, o, none⟩) → wpList Try.prog ops Q rest (a.put op.dst undef) w') :
    wpList Try.prog ops Q (op :: rest) a w := by
  refine wpList_store_mid hgd 22 x y ho B 0 (row f).toArray hx hy (by rw [row_size]; exact ht) (by rw [row_size]; exact info22) (row_one f) ?_
  refine h _ (arr_setCells ht hfz) (fun C a0 hC hb => below_setCells B hC _ _ _ hb) (size_setCells _ _ _ _) (fun b o hb => ?_)
  exact World.cell?_setCells_out B _ 0 w ⟨b, o, none⟩ (fun e => absurd e hb)
end Go.Proofs.Qxb6601249a

namespace Go.Proofs.Qxb6601249a.fnInPlayAddWholeSpec
open Go.RowKit

set_option maxHeartbeats 400000 in
theorem law_out (f : Nat → Int) (nx v : Int) (cl : Bool) (w : World) (h : nx < 0 ∨ 16 ≤ nx) :
    Calls Try.prog 3 #[.agg (row f).toArray, .int .i64 nx, .bool cl, .int .i64 v] w fun e w' => e = .returned (.bool true) ∧ Below w.heap.size w w' := by
  by_cases h1 : nx < 0
  · go_enter Try.func3, Try.ntmps3
    go_wp2
    go_ret
    exact ⟨rfl, (Below.refl _ _).alloc (Nat.le_refl _) _⟩
  · have h2 : 16 ≤ nx := by omega
    clear h
    go_enter Try.func3, Try.ntmps3
    go_wp2
    go_ret
    exact ⟨rfl, (Below.refl _ _).alloc (Nat.le_refl _) _⟩

set_option maxHeartbeats 1600000 in
set_option maxRecDepth 100000 in
theorem law_in (f : Nat → Int) (n : Nat) (v : Int) (cl : Bool) (w : World) (hn : n < 16) (hf : ∀ k, k < 16 → f k ≤ 9223372036854775807) (hv : v ≤ 9223372036854775807) :
    Calls Try.prog 3 #[.agg (row f).toArray, .int .i64 n, .bool cl, .int .i64 v] w fun e w' => e = .returned (.bool true) ∧ Below w.heap.size w w' := by
  have HF : Hid (∀ k, k < 16 → f k ≤ 9223372036854775807) := hf
  clear hf
  go_enter Try.func3, Try.ntmps3
  go_wp2_with (refine wpList_load_mid rfl 22 (.tmp 4) rfl w.heap.size 0 rfl (row f) _ ?_ Try.underlying22 rfl (by rw [row_length]; exact info22) ?_; (exact Arr.range (fun k hk => by rw [World.cell?_alloc_at _ _ _ _ rfl]; simpa using row_get f k hk)))
  refine (new_any f n cl _).mono ?_
  rintro e w1 ⟨rfl, hP1, hb1, hz1⟩
  have hp1 : IP w1 (w.heap.size + 1 + 1) f n cl := by simpa using hP1
  have HC1 : Hid (∀ k, k < 16 → w1.cell? ⟨w.heap.size, k, none⟩ = some (.int .i64 (f k))) := fun k hk => by
    rw [hb1.cell (by simp), World.cell?_alloc_at _ _ _ _ rfl]; simpa using row_get f k hk
  have hbw : Below w.heap.size w w1 := ((Below.refl _ _).alloc (Nat.le_refl _) _).trans (hb1.mono (by simp))
  have hs1 : w.heap.size + 1 + 1 < w1.heap.size := by rw [hz1]; simp
  clear hP1 hb1 hz1
  go_wp2_with fail
  refine (zzadd_any (w.heap.size + 1 + 1) n f v cl _ hn hp1 HF.out hv).mono ?_
  rintro e w2 ⟨rfl, hp2, hb2⟩
  have HC2 : Hid (∀ k, k < 16 → w2.cell? ⟨w.heap.size, k, none⟩ = some (.int .i64 (f k))) := fun k hk => (hb2.cell (by simp; omega)).trans (HC1.out k hk)
  have hbw2 : Below w.heap.size w w2 := hbw.trans (hb2.mono (by omega))
  have hs2 : w.heap.size + 1 + 1 < w2.heap.size := Nat.lt_of_lt_of_le hs1 hb2.size
  clear hp1 hbw hs1 hb2 HC1
  obtain ⟨g, hg⟩ : ∃ g, g = upd f n v := ⟨_, rfl⟩
  rw [← hg] at hp2
  have HG : Hid (g = upd f n v) := hg
  clear hg
  go_wp2_with fail
  refine (state_any (w.heap.size + 1 + 1) g _ _ _ hp2 hs2).mono ?_
  rintro e w3 ⟨rfl, hb3⟩
  have HC3 : Hid (∀ k, k < 16 → w3.cell? ⟨w.heap.size, k, none⟩ = some (.int .i64 (f k))) := fun k hk => (hb3.cell (by simp; omega)).trans (HC2.out k hk)
  have hbw3 : Below w.heap.size w w3 := hbw2.trans (hb3.mono (by omega))
  have hs3 : w.heap.size < w3.heap.size := by have := hb3.size; omega
  clear hp2 hbw2 hs2 hb3 HC2
  have HFG : Hid (∀ k, k < 16 → g k ≤ 9223372036854775807) := by
    intro k hk; rw [HG.out]; unfold upd; split
    · exact hv
    · exact HF.out k hk
  have b0 : (0 : Int) ≤ (n : Int) := by omega
  have b1 : (n : Int) < 16 := by omega
  by_cases h15 : n = 15
  · have e1 : ((n : Int) + 1 == 16) = true := by subst h15; rfl
    have e2 : (((n : Int) + 1) % 16 != 0) = false := by subst h15; rfl
    clear h15
    go_wp2_with (first
      | (refine store_arr rfl (.tmp 10) (.tmp 32) rfl w3.heap.size g rfl rfl (there_new _ _ rfl _ rfl _) (fun k => World.frozen?_alloc_at _ _ _ _ rfl) ?_; intro w4 hA4 hB4 hz4 hc4; simp only [World.size_alloc] at hz4)
      | (refine wpList_load_mid rfl 22 (.tmp 4) rfl w.heap.size 0 rfl (row f) _ ?_ Try.underlying22 rfl (by rw [row_length]; exact info22) ?_; (exact Arr.range (fun k hk => by rw [hc4 _ _ (by omega), World.cell?_alloc_past _ _ _ hs3]; exact HC3.out k hk)))
      | (refine store_arr rfl (.tmp 13) (.tmp 35) rfl (w3.heap.size + 1) f rfl rfl (there_new _ _ rfl _ hz4.symm _) (fun k => World.frozen?_alloc_at _ _ _ _ hz4.symm) ?_; intro w5 hA5 hB5 hz5 hc5; have cn := hA5.cell n hn; have fn := hA5.fz n))
    have hbelow : Below w.heap.size w (w5.setCell ⟨w3.heap.size + 1, n, none⟩ (.int .i64 v)) :=
      (hB5 _ _ (by omega) ((hB4 _ _ (by omega) (hbw3.alloc (by omega) _)).alloc (by omega) _)).setCell (by simp; omega) _
    have hG : ∀ k, k < 16 → (w5.setCell ⟨w3.heap.size + 1, n, none⟩ (.int .i64 v)).cell? ⟨w3.heap.size, k, none⟩ = some (.int .i64 (g k)) := fun k hk => by
      rw [World.cell?_setCell_other _ _ _ _ (fun h => absurd (congrArg Addr.block h) (by simp)), hc5 _ _ (by omega), World.cell?_alloc_past _ _ _ (by omega)]; exact hA4.cell k hk
    have hH : ∀ k, k < 16 → (w5.setCell ⟨w3.heap.size + 1, n, none⟩ (.int .i64 v)).cell? ⟨w3.heap.size + 1, k, none⟩ = some (.int .i64 (g k)) := fun k hk => by
      rw [HG.out]; exact (hA5.set n v hn).cell k hk
    clear hA4 hB4 hc4 hz4 hA5 hB5 hz5 hc5 cn fn
    go_loopw [15] (fun si wr => ∃ k : Nat, k ≤ 16 ∧ si = .int .i64 k ∧ (∀ k, k < 16 → wr.cell? ⟨w3.heap.size, k, none⟩ = some (.int .i64 (g k))) ∧ (∀ k, k < 16 → wr.cell? ⟨w3.heap.size + 1, k, none⟩ = some (.int .i64 (g k))) ∧ Below w.heap.size w wr) (fun si _ => 16 - (intOf si).toNat)
    case atStart => exact ⟨0, by omega, rfl, hG, hH, hbelow⟩
    case round =>
      clear hG hH hbelow
      obtain ⟨k, hk, rfl, hG, hH, hb⟩ := hrel
      have HGG : Hid (∀ k, k < 16 → wr.cell? ⟨w3.heap.size, k, none⟩ = some (.int .i64 (g k))) := hG
      have HHH : Hid (∀ k, k < 16 → wr.cell? ⟨w3.heap.size + 1, k, none⟩ = some (.int .i64 (g k))) := hH
      clear hG hH
      by_cases hlt : k < 16
      · have h1 := HGG.out k hlt
        have h2 := HHH.out k hlt
        have b1' : (k : Int) < 16 := by omega
        have b0' : (0 : Int) ≤ (k : Int) := by omega
        go_wp2
        go_quiet (fail)
        go_wp2
        go_roundw
        case rel => exact ⟨k + 1, by omega, by go_num, HGG.out, HHH.out, below_draws hb _⟩
        case measure => simp [intOf]; omega
      · have ek : k = 16 := by omega
        subst ek
        go_wp2_with (first
          | (refine wpList_load_mid rfl 22 (.tmp 13) rfl (w3.heap.size + 1) 0 rfl (row g) _ ?_ Try.underlying22 rfl (by rw [row_length]; exact info22) ?_; (exact Arr.range HHH.out))
          | (go_at_call 8; refine (sixth_any g _ HFG.out).mono ?_; rintro e w7 ⟨rfl, hb7⟩))
        go_ret
        exact ⟨by simp, hb.trans (hb7.mono hb.size)⟩
  · have e1 : ((n : Int) + 1 == 16) = false := by simp; omega
    have e2 : (((n : Int) + 1) % 16 != (n : Int) + 1) = false := by simp; omega
    clear h15
    go_wp2_with (first
      | (refine store_arr rfl (.tmp 10) (.tmp 32) rfl w3.heap.size g rfl rfl (there_new _ _ rfl _ rfl _) (fun k => World.frozen?_alloc_at _ _ _ _ rfl) ?_; intro w4 hA4 hB4 hz4 hc4; simp only [World.size_alloc] at hz4)
      | (refine wpList_load_mid rfl 22 (.tmp 4) rfl w.heap.size 0 rfl (row f) _ ?_ Try.underlying22 rfl (by rw [row_length]; exact info22) ?_; (exact Arr.range (fun k hk => by rw [hc4 _ _ (by omega), World.cell?_alloc_past _ _ _ hs3]; exact HC3.out k hk)))
      | (refine store_arr rfl (.tmp 13) (.tmp 35) rfl (w3.heap.size + 1) f rfl rfl (there_new _ _ rfl _ hz4.symm _) (fun k => World.frozen?_alloc_at _ _ _ _ hz4.symm) ?_; intro w5 hA5 hB5 hz5 hc5; have cn := hA5.cell n hn; have fn := hA5.fz n))
    have hbelow : Below w.heap.size w (w5.setCell ⟨w3.heap.size + 1, n, none⟩ (.int .i64 v)) :=
      (hB5 _ _ (by omega) ((hB4 _ _ (by omega) (hbw3.alloc (by omega) _)).alloc (by omega) _)).setCell (by simp; omega) _
    have hG : ∀ k, k < 16 → (w5.setCell ⟨w3.heap.size + 1, n, none⟩ (.int .i64 v)).cell? ⟨w3.heap.size, k, none⟩ = some (.int .i64 (g k)) := fun k hk => by
      rw [World.cell?_setCell_other _ _ _ _ (fun h => absurd (congrArg Addr.block h) (by simp)), hc5 _ _ (by omega), World.cell?_alloc_past _ _ _ (by omega)]; exact hA4.cell k hk
    have hH : ∀ k, k < 16 → (w5.setCell ⟨w3.heap.size + 1, n, none⟩ (.int .i64 v)).cell? ⟨w3.heap.size + 1, k, none⟩ = some (.int .i64 (g k)) := fun k hk => by
      rw [HG.out]; exact (hA5.set n v hn).cell k hk
    clear hA4 hB4 hc4 hz4 hA5 hB5 hz5 hc5 cn fn
    go_loopw [15] (fun si wr => ∃ k : Nat, k ≤ 16 ∧ si = .int .i64 k ∧ (∀ k, k < 16 → wr.cell? ⟨w3.heap.size, k, none⟩ = some (.int .i64 (g k))) ∧ (∀ k, k < 16 → wr.cell? ⟨w3.heap.size + 1, k, none⟩ = some (.int .i64 (g k))) ∧ Below w.heap.size w wr) (fun si _ => 16 - (intOf si).toNat)
    case atStart => exact ⟨0, by omega, rfl, hG, hH, hbelow⟩
    case round =>
      clear hG hH hbelow
      obtain ⟨k, hk, rfl, hG, hH, hb⟩ := hrel
      have HGG : Hid (∀ k, k < 16 → wr.cell? ⟨w3.heap.size, k, none⟩ = some (.int .i64 (g k))) := hG
      have HHH : Hid (∀ k, k < 16 → wr.cell? ⟨w3.heap.size + 1, k, none⟩ = some (.int .i64 (g k))) := hH
      clear hG hH
      by_cases hlt : k < 16
      · have h1 := HGG.out k hlt
        have h2 := HHH.out k hlt
        have b1' : (k : Int) < 16 := by omega
        have b0' : (0 : Int) ≤ (k : Int) := by omega
        go_wp2
        go_quiet (fail)
        go_wp2
        go_roundw
        case rel => exact ⟨k + 1, by omega, by go_num, HGG.out, HHH.out, below_draws hb _⟩
        case measure => simp [intOf]; omega
      · have ek : k = 16 := by omega
        subst ek
        go_wp2_with (first
          | (refine wpList_load_mid rfl 22 (.tmp 13) rfl (w3.heap.size + 1) 0 rfl (row g) _ ?_ Try.underlying22 rfl (by rw [row_length]; exact info22) ?_; (exact Arr.range HHH.out))
          | (go_at_call 8; refine (sixth_any g _ HFG.out).mono ?_; rintro e w7 ⟨rfl, hb7⟩))
        go_ret
        exact ⟨by simp, hb.trans (hb7.mono hb.size)⟩

theorem walk (f : Nat → Int) (nx v : Int) (cl : Bool) (w : World) (hf : ∀ k, k < 16 → f k ≤ 9223372036854775807) (hv : v ≤ 9223372036854775807) :
    Calls Try.prog 3 #[.agg (row f).toArray, .int .i64 nx, .bool cl, .int .i64 v] w fun e w' => e = .returned (.bool true) ∧ Below w.heap.size w w' := by
  by_cases h : nx < 0 ∨ 16 ≤ nx
  · exact law_out f nx v cl w h
  · obtain ⟨n, rfl⟩ : ∃ n : Nat, nx = n := ⟨nx.toNat, by omega⟩
    exact law_in f n v cl w (by omega) hf hv
end Go.Proofs.Qxb6601249a.fnInPlayAddWholeSpec
