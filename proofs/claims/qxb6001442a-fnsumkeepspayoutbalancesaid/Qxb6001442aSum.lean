import Derived.Test.Qxb6001442aRowsOf
import Derived.Deep.RegionWith
namespace Go.Proofs.Qxb6001442a
open Go.RowKit

def tot : ByteArray := ⟨#[84, 79, 84, 65, 76]⟩
/-- The totals of the settlement at block S. -/
structure Tot (w : World) (S : Nat) (U P I G Y : Int) : Prop where
  rng : w.rangeAt S 2 (lineC tot mt mt U P I G Y)
  fz : ∀ k, w.frozen? ⟨S, k, none⟩ = false

/-- A line at (b, o) whose books balance. -/
def LineAt (w : World) (b o : Nat) : Prop := ∃ u p i g y, w.cell? ⟨b, o + 3, none⟩ = some (.int .i64 u) ∧ w.cell? ⟨b, o + 5, none⟩ = some (.int .i64 p) ∧ w.cell? ⟨b, o + 6, none⟩ = some (.int .i64 i) ∧
  w.cell? ⟨b, o + 7, none⟩ = some (.int .i64 g) ∧ w.cell? ⟨b, o + 8, none⟩ = some (.int .i64 y) ∧ Bal p i g y

theorem line_moved {w w' : World} {b o : Nat} (h : LineAt w b o) (hc : ∀ o, w'.cell? ⟨b, o, none⟩ = w.cell? ⟨b, o, none⟩) : LineAt w' b o := by
  obtain ⟨u, p, i, g, y, h3, h5, h6, h7, h8, hb⟩ := h
  exact ⟨u, p, i, g, y, by rw [hc]; exact h3, by rw [hc]; exact h5, by rw [hc]; exact h6, by rw [hc]; exact h7, by rw [hc]; exact h8, hb⟩

theorem lineC_one (a b c : ByteArray) (u p i g y : Int) : (lineC a b c u p i g y).toArray.all (·.oneCell') = true := all_oneCell_toArray (fun v hv => by
  simp only [lineC, List.mem_cons, List.not_mem_nil, or_false] at hv
  rcases hv with rfl | rfl | rfl | rfl | rfl | rfl | rfl | rfl | rfl <;> rfl)

/-- The totals set to nought. -/
theorem store_total {ops : Array Oper} {rest : List Oper} {op : Oper} {a : Act} {w : World} {Q : Exit → Act → World → Prop} (hgd : op.guard = none) (x y : Operand) (ho : op.op = .store 33 x y)
    (S : Nat) (hx : a.eval x = .pointer (some ⟨S, 2, none⟩)) (hy : a.eval y = .agg (lineC tot mt mt 0 0 0 0 0).toArray) (ht : w.there S 2 9) (hfz : ∀ k, w.frozen? ⟨S, k, none⟩ = false)
    (h : ∀ w', Tot w' S 0 0 0 0 0 → Below S w w' → w'.heap.size = w.heap.size → (∀ b o, b ≠ S → w'.cell? ⟨b, o, none⟩ = w.cell? ⟨b, o, none⟩) → (∀ o, o < 2 → w'.cell? ⟨S, o, none⟩ = w.cell? ⟨S, o, none⟩) → wpList Try.prog ops Q rest (a.put op.dst undef) w') :
    wpList Try.prog ops Q (op :: rest) a w := by
  refine wpList_store_mid hgd 33 x y ho S 2 (lineC tot mt mt 0 0 0 0 0).toArray hx hy ht size33 (lineC_one _ _ _ _ _ _ _ _) ?_
  refine h _ ⟨World.rangeAt_setCells_same _ _ _ _ ht, fun k => by rw [World.frozen?_setCells]; exact hfz k⟩ (below_setCells S (Nat.le_refl _) _ _ _ (Below.refl _ _)) (size_setCells _ _ _ _) (fun b o hb => ?_) (fun o ho => ?_)
  · exact World.cell?_setCells_out S _ 2 w ⟨b, o, none⟩ (fun e => absurd e hb)
  · exact World.cell?_setCells_out S _ 2 w ⟨S, o, none⟩ (fun _ _ => Or.inl ho)

/-- One cell of the totals stored. -/
theorem range_set {w : World} {S o : Nat} {cs : List Value} (h : w.rangeAt S o cs) (j : Nat) (v : Value) : (w.setCell ⟨S, o + j, none⟩ v).rangeAt S o (cs.set j v) := by
  intro i u hu
  rw [List.getElem?_set] at hu
  by_cases e : j = i
  · subst e
    rw [if_pos rfl] at hu
    by_cases hj : j < cs.length
    · rw [if_pos hj] at hu
      cases hu
      exact World.cell?_setCell_same _ _ _ (h j cs[j] (List.getElem?_eq_getElem hj))
    · rw [if_neg hj] at hu; cases hu
  · rw [if_neg e] at hu
    rw [World.cell?_setCell_other _ _ _ _ (fun h' => e (by simpa using congrArg Addr.off h'))]
    exact h i u hu

theorem lineC_set (s1 s2 s3 : ByteArray) (U P I G Y a b c d e : Int) :
    ((((((lineC s1 s2 s3 U P I G Y).set 3 (.int .i64 a)).set 5 (.int .i64 b)).set 6 (.int .i64 c)).set 7 (.int .i64 d)).set 8 (.int .i64 e)) = lineC s1 s2 s3 a b c d e := rfl

/-- A round of the sum. -/
theorem rel_sum {w w2 wr : World} {S n k : Nat} {U P I G Y u p i g y : Int} (hlt : k < n) (hT : Tot wr S U P I G Y) (hBal : Bal P I G Y) (hbl : Bal p i g y)
    (hfr : ∀ b o, b ≠ S → wr.cell? ⟨b, o, none⟩ = w2.cell? ⟨b, o, none⟩) (hB : Below S w wr) :
    ∃ (k' : Nat) (U' P' I' G' Y' : Int), k' ≤ n ∧ Value.int .i64 ((k : Int) + 1) = .int .i64 k' ∧
      Tot (((((wr.setCell ⟨S, 5, none⟩ (.int .i64 (wrap64 (U + u)))).setCell ⟨S, 7, none⟩ (.int .i64 (wrap64 (P + p)))).setCell ⟨S, 8, none⟩ (.int .i64 (wrap64 (I + i)))).setCell ⟨S, 9, none⟩ (.int .i64 (wrap64 (G + g)))).setCell ⟨S, 10, none⟩ (.int .i64 (wrap64 (Y + y)))).drew.drew.drew.drew.drew S U' P' I' G' Y' ∧ Bal P' I' G' Y' ∧
      (∀ b o, b ≠ S → (((((wr.setCell ⟨S, 5, none⟩ (.int .i64 (wrap64 (U + u)))).setCell ⟨S, 7, none⟩ (.int .i64 (wrap64 (P + p)))).setCell ⟨S, 8, none⟩ (.int .i64 (wrap64 (I + i)))).setCell ⟨S, 9, none⟩ (.int .i64 (wrap64 (G + g)))).setCell ⟨S, 10, none⟩ (.int .i64 (wrap64 (Y + y)))).drew.drew.drew.drew.drew.cell? ⟨b, o, none⟩ = w2.cell? ⟨b, o, none⟩) ∧
      Below S w (((((wr.setCell ⟨S, 5, none⟩ (.int .i64 (wrap64 (U + u)))).setCell ⟨S, 7, none⟩ (.int .i64 (wrap64 (P + p)))).setCell ⟨S, 8, none⟩ (.int .i64 (wrap64 (I + i)))).setCell ⟨S, 9, none⟩ (.int .i64 (wrap64 (G + g)))).setCell ⟨S, 10, none⟩ (.int .i64 (wrap64 (Y + y)))).drew.drew.drew.drew.drew := by
  refine ⟨k + 1, wrap64 (U + u), wrap64 (P + p), wrap64 (I + i), wrap64 (G + g), wrap64 (Y + y), by omega, by rw [show ((k + 1 : Nat) : Int) = (k : Int) + 1 from by omega], ⟨?_, fun q => ?_⟩, bal_step hBal hbl, fun b o hb => ?_, ?_⟩
  · rw [World.rangeAt_drew, World.rangeAt_drew, World.rangeAt_drew, World.rangeAt_drew, World.rangeAt_drew, ← lineC_set tot mt mt U P I G Y]
    exact range_set (range_set (range_set (range_set (range_set hT.rng 3 _) 5 _) 6 _) 7 _) 8 _
  · show World.frozen? _ _ = false
    rw [World.frozen?_drew, World.frozen?_drew, World.frozen?_drew, World.frozen?_drew, World.frozen?_drew, World.frozen?_setCell, World.frozen?_setCell, World.frozen?_setCell, World.frozen?_setCell, World.frozen?_setCell]; exact hT.fz q
  · have hne : ∀ x, (⟨S, x, none⟩ : Addr) ≠ ⟨b, o, none⟩ := fun x e => hb (congrArg Addr.block e).symm
    rw [World.cell?_drew, World.cell?_drew, World.cell?_drew, World.cell?_drew, World.cell?_drew, World.cell?_setCell_other _ _ _ _ (hne _), World.cell?_setCell_other _ _ _ _ (hne _), World.cell?_setCell_other _ _ _ _ (hne _), World.cell?_setCell_other _ _ _ _ (hne _), World.cell?_setCell_other _ _ _ _ (hne _)]
    exact hfr b o hb
  · exact (((((hB.setCell (Nat.le_refl _) _).setCell (Nat.le_refl _) _).setCell (Nat.le_refl _) _).setCell (Nat.le_refl _) _).setCell (Nat.le_refl _) _).drew.drew.drew.drew.drew

set_option maxHeartbeats 1600000 in
set_option maxRecDepth 100000 in
theorem sum_none (S L n : Nat) (w : World) (hn : n ≤ 131072) (hL : L < S) (hS : S < w.heap.size) (c0 : w.cell? ⟨S, 0, none⟩ = some (.slice (some ⟨L, 0, none⟩) n n)) (c1 : w.cell? ⟨S, 1, none⟩ = some (.pointer none))
    (hth : w.there S 2 9) (hfz : ∀ k, w.frozen? ⟨S, k, none⟩ = false) (hl : ∀ j, j < n → LineAt w L (j * 9)) :
    Calls Try.prog 11 #[.pointer (some ⟨S, 0, none⟩)] w fun e w' => e = .returned (.pointer (some ⟨S, 0, none⟩)) ∧ (∃ U P I G Y, Tot w' S U P I G Y ∧ Bal P I G Y) ∧ Below S w w' := by
  have HL : Hid (∀ j, j < n → LineAt w L (j * 9)) := hl
  have HTH : Hid (w.there S 2 9) := hth
  have HF : Hid (∀ k, w.frozen? ⟨S, k, none⟩ = false) := hfz
  clear hl hth hfz
  go_enter Try.func11, Try.ntmps11
  go_wp2_with (refine store_total rfl (.tmp 9) (.tmp 7) rfl S rfl rfl HTH.out HF.out ?_; intro w1 hT1 hB1 hz1 hc1 ho1)
  have d0 : w1.cell? ⟨S, 0, none⟩ = some (.slice (some ⟨L, 0, none⟩) n n) := (ho1 0 (by omega)).trans c0
  have d1 : w1.cell? ⟨S, 1, none⟩ = some (.pointer none) := (ho1 1 (by omega)).trans c1
  go_region_with (go_at_call 13; refine (withPool_none L n _ hn).mono ?_; rintro e w2 ⟨rfl, hr2, hb2⟩)
  all_goals
    have hb2' : Below w1.heap.size w1 w2 := ⟨hb2.os, hb2.tape, hb2.output, hb2.size, hb2.block⟩
    have hr2' : ∀ j, j < n → w2.cell? ⟨w.heap.size, j, none⟩ = some (.pointer (some ⟨L, j * 9, none⟩)) := by rw [← hz1]; exact hr2
    have hRS : S < w1.heap.size := by rw [hz1]; exact hS
    have HROW : Hid (∀ r, r < n → ∃ b o, w2.cell? ⟨w.heap.size, r, none⟩ = some (.pointer (some ⟨b, o, none⟩)) ∧ b < S ∧ LineAt w2 b o) := fun r hr =>
      ⟨L, r * 9, hr2' r hr, hL, line_moved (HL.out r hr) (fun o => (hb2'.cell (by simp; omega)).trans (hc1 _ _ (by omega)))⟩
    have hT2 : Tot w2 S 0 0 0 0 0 := ⟨range_below hT1.rng hb2' hRS, fun k => by rw [hb2'.frozen (by exact hRS)]; exact hT1.fz k⟩
    have hBw : Below S w w2 := hB1.trans (hb2'.mono (by omega))
    have HN : Hid (w1.heap.size = w.heap.size) := hz1
    clear hr2 hb2 hr2' hT1 hB1 hc1 ho1 d0 d1 c0 c1 hb2' hz1
    go_simp
    go_wp2
    go_loopw [20, 4] (fun si _ wx => ∃ (k : Nat) (U P I G Y : Int), k ≤ n ∧ si = .int .i64 k ∧ Tot wx S U P I G Y ∧ Bal P I G Y ∧ (∀ b o, b ≠ S → wx.cell? ⟨b, o, none⟩ = w2.cell? ⟨b, o, none⟩) ∧ Below S w wx) (fun si _ _ => n - (intOf si).toNat)
    case atStart => exact ⟨0, 0, 0, 0, 0, 0, Nat.zero_le _, rfl, hT2, bal_zero, fun _ _ _ => rfl, hBw⟩
    case round =>
      clear hT2 hBw
      obtain ⟨k, U, P, I, G, Y, hk, rfl, hT, hBal, hfr, hB⟩ := hrel
      have HT : Hid (Tot wr S U P I G Y) := hT
      have HBAL : Hid (Bal P I G Y) := hBal
      have HFR : Hid (∀ b o, b ≠ S → wr.cell? ⟨b, o, none⟩ = w2.cell? ⟨b, o, none⟩) := hfr
      have HB : Hid (Below S w wr) := hB
      clear hT hBal hfr hB
      by_cases hlt : k < n
      · obtain ⟨b, o, hrow, hbS, u, p, i, g, y, l3, l5, l6, l7, l8, hbl⟩ := HROW.out k hlt
        have HBL : Hid (Bal p i g y) := hbl
        have hne : b ≠ S := by omega
        rw [← HFR.out _ _ (by omega)] at hrow
        rw [← HFR.out _ _ hne] at l3 l5 l6 l7 l8
        have t5 := HT.out.rng 3 (.int .i64 U) rfl
        have t7 := HT.out.rng 5 (.int .i64 P) rfl
        have t8 := HT.out.rng 6 (.int .i64 I) rfl
        have t9 := HT.out.rng 7 (.int .i64 G) rfl
        have t10 := HT.out.rng 8 (.int .i64 Y) rfl
        simp only [Nat.reduceAdd] at t5 t7 t8 t9 t10
        have f5 := HT.out.fz 5
        have f7 := HT.out.fz 7
        have f8 := HT.out.fz 8
        have f9 := HT.out.fz 9
        have f10 := HT.out.fz 10
        clear hbl
        go_wp2
        go_region
        go_wp2
        go_region
        go_wp2
        go_region
        go_wp2
        go_region
        go_wp2
        go_region
        go_wp2
        go_roundw
        case rel => exact rel_sum hlt HT.out HBAL.out HBL.out HFR.out HB.out
        case measure => simp [intOf]; omega
      · have ek : k = n := by omega
        subst ek
        go_wp2
        go_ret
        exact ⟨rfl, ⟨U, P, I, G, Y, HT.out, HBAL.out⟩, HB.out⟩
end Go.Proofs.Qxb6001442a
