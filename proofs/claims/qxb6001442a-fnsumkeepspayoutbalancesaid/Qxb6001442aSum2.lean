import Derived.Test.Qxb6001442aSum
namespace Go.Proofs.Qxb6001442a
open Go.RowKit

set_option maxHeartbeats 1600000 in
set_option maxRecDepth 100000 in
theorem sum_some (S L n Q : Nat) (w : World) (hn : n ≤ 131072) (hL : L < S) (hQ : Q < S) (hS : S < w.heap.size) (c0 : w.cell? ⟨S, 0, none⟩ = some (.slice (some ⟨L, 0, none⟩) n n)) (c1 : w.cell? ⟨S, 1, none⟩ = some (.pointer (some ⟨Q, 0, none⟩)))
    (hth : w.there S 2 9) (hfz : ∀ k, w.frozen? ⟨S, k, none⟩ = false) (hl : ∀ j, j < n → LineAt w L (j * 9)) (hq : LineAt w Q 0) :
    Calls Try.prog 11 #[.pointer (some ⟨S, 0, none⟩)] w fun e w' => e = .returned (.pointer (some ⟨S, 0, none⟩)) ∧ (∃ U P I G Y, Tot w' S U P I G Y ∧ Bal P I G Y) ∧ Below S w w' := by
  have HL : Hid (∀ j, j < n → LineAt w L (j * 9)) := hl
  have HTH : Hid (w.there S 2 9) := hth
  have HF : Hid (∀ k, w.frozen? ⟨S, k, none⟩ = false) := hfz
  have HQ : Hid (LineAt w Q 0) := hq
  clear hl hth hfz hq
  go_enter Try.func11, Try.ntmps11
  go_wp2_with (refine store_total rfl (.tmp 9) (.tmp 7) rfl S rfl rfl HTH.out HF.out ?_; intro w1 hT1 hB1 hz1 hc1 ho1)
  have d0 : w1.cell? ⟨S, 0, none⟩ = some (.slice (some ⟨L, 0, none⟩) n n) := (ho1 0 (by omega)).trans c0
  have d1 : w1.cell? ⟨S, 1, none⟩ = some (.pointer (some ⟨Q, 0, none⟩)) := (ho1 1 (by omega)).trans c1
  go_region_with (go_at_call 13; refine (withPool_some L n Q _ hn).mono ?_; rintro e w2 ⟨rfl, hp2, hr2, hb2⟩)
  all_goals
    have hb2' : Below w1.heap.size w1 w2 := ⟨hb2.os, hb2.tape, hb2.output, hb2.size, hb2.block⟩
    have hr2' : ∀ j, j < n → w2.cell? ⟨w.heap.size, j, none⟩ = some (.pointer (some ⟨L, j * 9, none⟩)) := by rw [← hz1]; exact hr2
    have hp2' : w2.cell? ⟨w.heap.size, n, none⟩ = some (.pointer (some ⟨Q, 0, none⟩)) := by rw [← hz1]; exact hp2
    have hRS : S < w1.heap.size := by rw [hz1]; exact hS
    have HROW : Hid (∀ r, r < n + 1 → ∃ b o, w2.cell? ⟨w.heap.size, r, none⟩ = some (.pointer (some ⟨b, o, none⟩)) ∧ b < S ∧ LineAt w2 b o) := fun r hr => by
      by_cases e : r < n
      · exact ⟨L, r * 9, hr2' r e, hL, line_moved (HL.out r e) (fun o => (hb2'.cell (by simp; omega)).trans (hc1 _ _ (by omega)))⟩
      · obtain rfl : r = n := by omega
        exact ⟨Q, 0, hp2', hQ, line_moved HQ.out (fun o => (hb2'.cell (by simp; omega)).trans (hc1 _ _ (by omega)))⟩
    have hT2 : Tot w2 S 0 0 0 0 0 := ⟨range_below hT1.rng hb2' hRS, fun k => by rw [hb2'.frozen (by exact hRS)]; exact hT1.fz k⟩
    have hBw : Below S w w2 := hB1.trans (hb2'.mono (by omega))
    have HN : Hid (w1.heap.size = w.heap.size) := hz1
    clear hr2 hb2 hr2' hp2 hp2' hT1 hB1 hc1 ho1 d0 d1 c0 c1 hb2' hz1
    go_simp
    go_wp2
    go_loopw [20, 4] (fun si _ wx => ∃ (k : Nat) (U P I G Y : Int), k ≤ n + 1 ∧ si = .int .i64 k ∧ Tot wx S U P I G Y ∧ Bal P I G Y ∧ (∀ b o, b ≠ S → wx.cell? ⟨b, o, none⟩ = w2.cell? ⟨b, o, none⟩) ∧ Below S w wx) (fun si _ _ => n + 1 - (intOf si).toNat)
    case atStart => exact ⟨0, 0, 0, 0, 0, 0, Nat.zero_le _, rfl, hT2, bal_zero, fun _ _ _ => rfl, hBw⟩
    case round =>
      clear hT2 hBw
      obtain ⟨k, U, P, I, G, Y, hk, rfl, hT, hBal, hfr, hB⟩ := hrel
      have HT : Hid (Tot wr S U P I G Y) := hT
      have HBAL : Hid (Bal P I G Y) := hBal
      have HFR : Hid (∀ b o, b ≠ S → wr.cell? ⟨b, o, none⟩ = w2.cell? ⟨b, o, none⟩) := hfr
      have HB : Hid (Below S w wr) := hB
      clear hT hBal hfr hB
      by_cases hlt : k < n + 1
      · obtain ⟨b, o, hrow, hbS, u, p, i, g, y, l3, l5, l6, l7, l8, hbl⟩ := HROW.out k hlt
        have HBL : Hid (Bal p i g y) := hbl
        have hne : b ≠ S := by omega
        rw [← HFR.out _ _ (by omega)] at hrow
        rw [← HFR.out _ _ hne] at l3 l5 l6 l7 l8
        have t5 := HT.out.rng 3 (.int .i64 U) rfl
        have t7 := HT.out.rng 5 (.int .i64 P) rfl
        have t8 := HT.out.rng 6 (.int .i64 I) rfl
        have t9 := HT.out.rng 7 (.int .i64 G) rfl
        have t10 := HT.out.rng 8 (.int .i64 Y) rfl
        simp only [Nat.reduceAdd] at t5 t7 t8 t9 t10
        have f5 := HT.out.fz 5
        have f7 := HT.out.fz 7
        have f8 := HT.out.fz 8
        have f9 := HT.out.fz 9
        have f10 := HT.out.fz 10
        clear hbl
        go_wp2
        go_region
        go_wp2
        go_region
        go_wp2
        go_region
        go_wp2
        go_region
        go_wp2
        go_region
        go_wp2
        go_roundw
        case rel => exact rel_sum hlt HT.out HBAL.out HBL.out HFR.out HB.out
        case measure => simp [intOf]; omega
      · have ek : k = n + 1 := by omega
        subst ek
        go_wp2
        go_ret
        exact ⟨rfl, ⟨U, P, I, G, Y, HT.out, HBAL.out⟩, HB.out⟩

set_option maxHeartbeats 400000 in
theorem zzsum_none (S L n : Nat) (w : World) (hn : n ≤ 131072) (hL : L < S) (hS : S < w.heap.size) (c0 : w.cell? ⟨S, 0, none⟩ = some (.slice (some ⟨L, 0, none⟩) n n)) (c1 : w.cell? ⟨S, 1, none⟩ = some (.pointer none))
    (hth : w.there S 2 9) (hfz : ∀ k, w.frozen? ⟨S, k, none⟩ = false) (hl : ∀ j, j < n → LineAt w L (j * 9)) :
    Calls Try.prog 8 #[.pointer (some ⟨S, 0, none⟩)] w fun e w' => e = .returned (.pointer (some ⟨S, 0, none⟩)) ∧ (∃ U P I G Y, Tot w' S U P I G Y ∧ Bal P I G Y) ∧ Below S w w' := by
  go_enter Try.func8, Try.ntmps8
  go_wp2_with (go_at_call 11; refine (sum_none S L n w hn hL hS c0 c1 hth hfz hl).mono ?_; rintro e w1 ⟨rfl, h1, h2⟩)
  go_ret
  exact ⟨rfl, h1, h2⟩

set_option maxHeartbeats 400000 in
theorem zzsum_some (S L n Q : Nat) (w : World) (hn : n ≤ 131072) (hL : L < S) (hQ : Q < S) (hS : S < w.heap.size) (c0 : w.cell? ⟨S, 0, none⟩ = some (.slice (some ⟨L, 0, none⟩) n n)) (c1 : w.cell? ⟨S, 1, none⟩ = some (.pointer (some ⟨Q, 0, none⟩)))
    (hth : w.there S 2 9) (hfz : ∀ k, w.frozen? ⟨S, k, none⟩ = false) (hl : ∀ j, j < n → LineAt w L (j * 9)) (hq : LineAt w Q 0) :
    Calls Try.prog 8 #[.pointer (some ⟨S, 0, none⟩)] w fun e w' => e = .returned (.pointer (some ⟨S, 0, none⟩)) ∧ (∃ U P I G Y, Tot w' S U P I G Y ∧ Bal P I G Y) ∧ Below S w w' := by
  go_enter Try.func8, Try.ntmps8
  go_wp2_with (go_at_call 11; refine (sum_some S L n Q w hn hL hQ hS c0 c1 hth hfz hl hq).mono ?_; rintro e w1 ⟨rfl, h1, h2⟩)
  go_ret
  exact ⟨rfl, h1, h2⟩
end Go.Proofs.Qxb6001442a
