import Derived.Test.Qxb6001442aLaw0
namespace Go.Proofs.Qxb6001442a.fnSumKeepsPayoutBalance
open Go.RowKit

set_option maxHeartbeats 3200000 in
set_option maxRecDepth 100000 in
theorem main_none (b off len0 cap0 n : Nat) (zs : List Int) (P0 P1 P2 P3 P4 : Int) (w : World) (hn0 : 0 < n) (hn1 : 5 * n ≤ len0) (hn2 : len0 < 5 * n + 5) (hl : len0 ≤ 131072) (hbw : b < w.heap.size) (hc : ∀ i, i < len0 → w.cell? ⟨b, off + i, none⟩ = some (.int .i64 (zs.getD i 0))) :
    Calls Try.prog 4 #[.slice (some ⟨b, off, none⟩) len0 cap0, .bool false, .agg #[.int .i64 P0, .int .i64 P1, .int .i64 P2, .int .i64 P3, .int .i64 P4]] w fun e w' => e = .returned (.bool true) ∧ Below w.heap.size w w' := by
  have HC : Hid (∀ i, i < len0 → w.cell? ⟨b, off + i, none⟩ = some (.int .i64 (zs.getD i 0))) := hc
  clear hc
  have hB0 : Below w.heap.size w ((w.alloc (.cells #[.int .i64 P0, .int .i64 P1, .int .i64 P2, .int .i64 P3, .int .i64 P4] 23)).alloc (.cells #[.int .i64 P0, .int .i64 P1, .int .i64 P2, .int .i64 P3, .int .i64 P4] 23)) := ((Below.refl _ _).alloc (Nat.le_refl _) _).alloc (by simp) _
  have hP0 : ((w.alloc (.cells #[.int .i64 P0, .int .i64 P1, .int .i64 P2, .int .i64 P3, .int .i64 P4] 23)).alloc (.cells #[.int .i64 P0, .int .i64 P1, .int .i64 P2, .int .i64 P3, .int .i64 P4] 23)).rangeAt w.heap.size 0 [.int .i64 P0, .int .i64 P1, .int .i64 P2, .int .i64 P3, .int .i64 P4] := by
    intro j v hv
    rw [Nat.zero_add, World.cell?_alloc_past _ _ _ (by simp), World.cell?_alloc_at _ _ _ _ rfl, List.getElem?_toArray]
    exact hv
  go_enter Try.func4, Try.ntmps4
  go_wp2_with (go_at_call 10; go_in)
  go_loopw [8] (fun si wx => ∃ k : Nat, k ≤ n ∧ si = .int .i64 k ∧ (∀ j, j < k → Bal (zs.getD (5 * j + 1) 0) (zs.getD (5 * j + 2) 0) (zs.getD (5 * j + 3) 0) (zs.getD (5 * j + 4) 0)) ∧ Below w.heap.size w wx ∧ wx.rangeAt w.heap.size 0 [.int .i64 P0, .int .i64 P1, .int .i64 P2, .int .i64 P3, .int .i64 P4] ∧ w.heap.size < wx.heap.size) (fun si _ => n - (intOf si).toNat)
  case atStart => exact ⟨0, Nat.zero_le _, rfl, fun j h => absurd h (Nat.not_lt_zero _), hB0, hP0, by simp; omega⟩
  case round =>
    clear hB0 hP0
    obtain ⟨k, hk, rfl, hbal, hB, hPr, hsz⟩ := hrel
    have HP : Hid (wr.rangeAt w.heap.size 0 [.int .i64 P0, .int .i64 P1, .int .i64 P2, .int .i64 P3, .int .i64 P4]) := hPr
    have HBAL : Hid (∀ j, j < k → Bal (zs.getD (5 * j + 1) 0) (zs.getD (5 * j + 2) 0) (zs.getD (5 * j + 3) 0) (zs.getD (5 * j + 4) 0)) := hbal
    clear hPr hbal
    by_cases hlt : k < n
    · have x1 := (hB.cell (p := ⟨b, off + (5 * k + 1), none⟩) (by exact hbw)).trans (HC.out (5 * k + 1) (by omega))
      have x2 := (hB.cell (p := ⟨b, off + (5 * k + 2), none⟩) (by exact hbw)).trans (HC.out (5 * k + 2) (by omega))
      have x3 := (hB.cell (p := ⟨b, off + (5 * k + 3), none⟩) (by exact hbw)).trans (HC.out (5 * k + 3) (by omega))
      have x4 := (hB.cell (p := ⟨b, off + (5 * k + 4), none⟩) (by exact hbw)).trans (HC.out (5 * k + 4) (by omega))
      obtain ⟨v1, e1⟩ : ∃ v, v = zs.getD (5 * k + 1) 0 := ⟨_, rfl⟩
      obtain ⟨v2, e2⟩ : ∃ v, v = zs.getD (5 * k + 2) 0 := ⟨_, rfl⟩
      obtain ⟨v3, e3⟩ : ∃ v, v = zs.getD (5 * k + 3) 0 := ⟨_, rfl⟩
      obtain ⟨v4, e4⟩ : ∃ v, v = zs.getD (5 * k + 4) 0 := ⟨_, rfl⟩
      rw [← e1] at x1
      rw [← e2] at x2
      rw [← e3] at x3
      rw [← e4] at x4
      have HE : Hid (v1 = zs.getD (5 * k + 1) 0 ∧ v2 = zs.getD (5 * k + 2) 0 ∧ v3 = zs.getD (5 * k + 3) 0 ∧ v4 = zs.getD (5 * k + 4) 0) := ⟨e1, e2, e3, e4⟩
      clear e1 e2 e3 e4
      have i1 : (5 : Int) * (k : Int) + 1 < (len0 : Int) := by omega
      have i2 : (5 : Int) * (k : Int) + 2 < (len0 : Int) := by omega
      have i3 : (5 : Int) * (k : Int) + 3 < (len0 : Int) := by omega
      have i4 : (5 : Int) * (k : Int) + 4 < (len0 : Int) := by omega
      by_cases hbk : Bal v1 v2 v3 v4
      · have HBK : Hid (Bal v1 v2 v3 v4) := hbk
        have ht := bal_ne hbk
        clear hbk
        go_wp2
        go_quiet (fail)
        go_wp2
        go_roundw
        case rel =>
          refine ⟨k + 1, by omega, by go_num, fun j hj => ?_, below_draws hB _, HP.out, hsz⟩
          by_cases e : j = k
          · subst e
            have h := HBK.out
            rw [HE.out.1, HE.out.2.1, HE.out.2.2.1, HE.out.2.2.2] at h
            exact h
          · exact HBAL.out j (by omega)
        case measure => simp [intOf]; omega
      · have ht := bal_bad hbk
        clear hbk
        go_wp2
        go_quiet (fail)
        go_wp2
        go_ret
        exact ⟨rfl, below_draws hB _⟩
    · have ek : k = n := by omega
      subst ek
      go_wp2_with fail
      refine (clone_some b off len0 cap0 zs _ hl (fun _ => Nat.lt_of_lt_of_le hbw hB.size) (fun i hi => (hB.cell (by exact hbw)).trans (HC.out i hi))).mono ?_
      rintro e w3 ⟨rfl, hb3, hs3, hc3⟩
      have HC3 : Hid (∀ i, i < len0 → w3.cell? ⟨wr.heap.size, i, none⟩ = some (.int .i64 (zs.getD i 0))) := hc3
      clear hc3
      have hB3 : Below w.heap.size w w3 := hB.trans (hb3.mono hB.size)
      have hs3' : w.heap.size < w3.heap.size := Nat.lt_of_lt_of_le hsz hb3.size
      have HP3 : Hid (w3.rangeAt w.heap.size 0 [.int .i64 P0, .int .i64 P1, .int .i64 P2, .int .i64 P3, .int .i64 P4]) := range_below HP.out hb3 hsz
      clear HP hB
      go_wp2_with fail
      refine (lines_pos wr.heap.size len0 k (fun k => zs.getD k 0) _ hn0 hn1 hn2 hl hs3 HC3.out).mono ?_
      rintro e w5 ⟨rfl, hr5, hb5, hs5⟩
      have HR5 : Hid (∀ j, j < k → w5.rangeAt w3.heap.size (j * 9) (ln (fun k => zs.getD k 0) j)) := hr5
      clear hr5
      have hB5 : Below w.heap.size w w5 := hB3.trans (hb5.mono hB3.size)
      go_wp2_with fail
      refine (zzsum_none w5.heap.size w3.heap.size k _ (by omega) hs5 (by simp) (by rw [World.cell?_alloc_at _ _ _ _ rfl]; rfl) (by rw [World.cell?_alloc_at _ _ _ _ rfl]; rfl) (there_of_new _ _ _ _ _ _ rfl (by simp)) (fun k => World.frozen?_alloc_at _ _ _ _ rfl) (fun j hj => line_of (World.rangeAt_alloc (HR5.out j hj) _) (HBAL.out j hj))).mono ?_
      rintro e w6 ⟨rfl, ⟨U, P, I, G, Y, hT, hBal⟩, hb6⟩
      have hB6 : Below w.heap.size w w6 := (hB5.alloc hB5.size _).trans (hb6.mono hB5.size)
      go_wp2_with (first
        | (refine wpList_load_mid rfl 33 (.tmp 80) rfl w5.heap.size 2 rfl (lineC tot mt mt U P I G Y) _ hT.rng Try.underlying33 rfl size33 ?_)
        | (refine store_line rfl (.tmp 10) (.tmp 81) rfl w6.heap.size tot mt mt U P I G Y rfl rfl (there_of_new _ _ _ _ _ _ rfl (by simp)) ?_; intro w7 hr7 hb7; have k5 : w7.cell? ⟨w6.heap.size, 5, none⟩ = some (.int .i64 P) := hr7 5 _ rfl; have k6 : w7.cell? ⟨w6.heap.size, 6, none⟩ = some (.int .i64 I) := hr7 6 _ rfl; have k7 : w7.cell? ⟨w6.heap.size, 7, none⟩ = some (.int .i64 G) := hr7 7 _ rfl; have k8 : w7.cell? ⟨w6.heap.size, 8, none⟩ = some (.int .i64 Y) := hr7 8 _ rfl; have hbt := bal_true hBal))
      go_ret
      exact ⟨rfl, hb7 _ _ hB6.size (hB6.alloc hB6.size _)⟩

set_option maxHeartbeats 3200000 in
set_option maxRecDepth 100000 in
theorem main_some (b off len0 cap0 n : Nat) (zs : List Int) (P0 P1 P2 P3 P4 : Int) (w : World) (hn0 : 0 < n) (hn1 : 5 * n ≤ len0) (hn2 : len0 < 5 * n + 5) (hl : len0 ≤ 131072) (hbw : b < w.heap.size) (hc : ∀ i, i < len0 → w.cell? ⟨b, off + i, none⟩ = some (.int .i64 (zs.getD i 0))) (hpb : Bal P1 P2 P3 P4) :
    Calls Try.prog 4 #[.slice (some ⟨b, off, none⟩) len0 cap0, .bool true, .agg #[.int .i64 P0, .int .i64 P1, .int .i64 P2, .int .i64 P3, .int .i64 P4]] w fun e w' => e = .returned (.bool true) ∧ Below w.heap.size w w' := by
  have HC : Hid (∀ i, i < len0 → w.cell? ⟨b, off + i, none⟩ = some (.int .i64 (zs.getD i 0))) := hc
  clear hc
  have HPB : Hid (Bal P1 P2 P3 P4) := hpb
  have hpt := bal_ne hpb
  clear hpb
  have hB0 : Below w.heap.size w ((w.alloc (.cells #[.int .i64 P0, .int .i64 P1, .int .i64 P2, .int .i64 P3, .int .i64 P4] 23)).alloc (.cells #[.int .i64 P0, .int .i64 P1, .int .i64 P2, .int .i64 P3, .int .i64 P4] 23)) := ((Below.refl _ _).alloc (Nat.le_refl _) _).alloc (by simp) _
  have hP0 : ((w.alloc (.cells #[.int .i64 P0, .int .i64 P1, .int .i64 P2, .int .i64 P3, .int .i64 P4] 23)).alloc (.cells #[.int .i64 P0, .int .i64 P1, .int .i64 P2, .int .i64 P3, .int .i64 P4] 23)).rangeAt w.heap.size 0 [.int .i64 P0, .int .i64 P1, .int .i64 P2, .int .i64 P3, .int .i64 P4] := by
    intro j v hv
    rw [Nat.zero_add, World.cell?_alloc_past _ _ _ (by simp), World.cell?_alloc_at _ _ _ _ rfl, List.getElem?_toArray]
    exact hv
  go_enter Try.func4, Try.ntmps4
  go_wp2_with (go_at_call 10; go_in)
  go_loopw [8] (fun si wx => ∃ k : Nat, k ≤ n ∧ si = .int .i64 k ∧ (∀ j, j < k → Bal (zs.getD (5 * j + 1) 0) (zs.getD (5 * j + 2) 0) (zs.getD (5 * j + 3) 0) (zs.getD (5 * j + 4) 0)) ∧ Below w.heap.size w wx ∧ wx.rangeAt w.heap.size 0 [.int .i64 P0, .int .i64 P1, .int .i64 P2, .int .i64 P3, .int .i64 P4] ∧ w.heap.size < wx.heap.size) (fun si _ => n - (intOf si).toNat)
  case atStart => exact ⟨0, Nat.zero_le _, rfl, fun j h => absurd h (Nat.not_lt_zero _), hB0, hP0, by simp; omega⟩
  case round =>
    clear hB0 hP0
    obtain ⟨k, hk, rfl, hbal, hB, hPr, hsz⟩ := hrel
    have HP : Hid (wr.rangeAt w.heap.size 0 [.int .i64 P0, .int .i64 P1, .int .i64 P2, .int .i64 P3, .int .i64 P4]) := hPr
    have HBAL : Hid (∀ j, j < k → Bal (zs.getD (5 * j + 1) 0) (zs.getD (5 * j + 2) 0) (zs.getD (5 * j + 3) 0) (zs.getD (5 * j + 4) 0)) := hbal
    clear hPr hbal
    by_cases hlt : k < n
    · have x1 := (hB.cell (p := ⟨b, off + (5 * k + 1), none⟩) (by exact hbw)).trans (HC.out (5 * k + 1) (by omega))
      have x2 := (hB.cell (p := ⟨b, off + (5 * k + 2), none⟩) (by exact hbw)).trans (HC.out (5 * k + 2) (by omega))
      have x3 := (hB.cell (p := ⟨b, off + (5 * k + 3), none⟩) (by exact hbw)).trans (HC.out (5 * k + 3) (by omega))
      have x4 := (hB.cell (p := ⟨b, off + (5 * k + 4), none⟩) (by exact hbw)).trans (HC.out (5 * k + 4) (by omega))
      obtain ⟨v1, e1⟩ : ∃ v, v = zs.getD (5 * k + 1) 0 := ⟨_, rfl⟩
      obtain ⟨v2, e2⟩ : ∃ v, v = zs.getD (5 * k + 2) 0 := ⟨_, rfl⟩
      obtain ⟨v3, e3⟩ : ∃ v, v = zs.getD (5 * k + 3) 0 := ⟨_, rfl⟩
      obtain ⟨v4, e4⟩ : ∃ v, v = zs.getD (5 * k + 4) 0 := ⟨_, rfl⟩
      rw [← e1] at x1
      rw [← e2] at x2
      rw [← e3] at x3
      rw [← e4] at x4
      have HE : Hid (v1 = zs.getD (5 * k + 1) 0 ∧ v2 = zs.getD (5 * k + 2) 0 ∧ v3 = zs.getD (5 * k + 3) 0 ∧ v4 = zs.getD (5 * k + 4) 0) := ⟨e1, e2, e3, e4⟩
      clear e1 e2 e3 e4
      have i1 : (5 : Int) * (k : Int) + 1 < (len0 : Int) := by omega
      have i2 : (5 : Int) * (k : Int) + 2 < (len0 : Int) := by omega
      have i3 : (5 : Int) * (k : Int) + 3 < (len0 : Int) := by omega
      have i4 : (5 : Int) * (k : Int) + 4 < (len0 : Int) := by omega
      by_cases hbk : Bal v1 v2 v3 v4
      · have HBK : Hid (Bal v1 v2 v3 v4) := hbk
        have ht := bal_ne hbk
        clear hbk
        go_wp2
        go_quiet (fail)
        go_wp2
        go_roundw
        case rel =>
          refine ⟨k + 1, by omega, by go_num, fun j hj => ?_, below_draws hB _, HP.out, hsz⟩
          by_cases e : j = k
          · subst e
            have h := HBK.out
            rw [HE.out.1, HE.out.2.1, HE.out.2.2.1, HE.out.2.2.2] at h
            exact h
          · exact HBAL.out j (by omega)
        case measure => simp [intOf]; omega
      · have ht := bal_bad hbk
        clear hbk
        go_wp2
        go_quiet (fail)
        go_wp2
        go_ret
        exact ⟨rfl, below_draws hB _⟩
    · have ek : k = n := by omega
      subst ek
      have q1 : wr.cell? ⟨w.heap.size, 1, none⟩ = some (.int .i64 P1) := HP.out 1 _ rfl
      have q2 : wr.cell? ⟨w.heap.size, 2, none⟩ = some (.int .i64 P2) := HP.out 2 _ rfl
      have q3 : wr.cell? ⟨w.heap.size, 3, none⟩ = some (.int .i64 P3) := HP.out 3 _ rfl
      have q4 : wr.cell? ⟨w.heap.size, 4, none⟩ = some (.int .i64 P4) := HP.out 4 _ rfl
      go_wp2_with fail
      clear q1 q2 q3 q4
      refine (clone_some b off len0 cap0 zs _ hl (fun _ => Nat.lt_of_lt_of_le hbw hB.size) (fun i hi => (hB.cell (by exact hbw)).trans (HC.out i hi))).mono ?_
      rintro e w3 ⟨rfl, hb3, hs3, hc3⟩
      have HC3 : Hid (∀ i, i < len0 → w3.cell? ⟨wr.heap.size, i, none⟩ = some (.int .i64 (zs.getD i 0))) := hc3
      clear hc3
      have hB3 : Below w.heap.size w w3 := hB.trans (hb3.mono hB.size)
      have hs3' : w.heap.size < w3.heap.size := Nat.lt_of_lt_of_le hsz hb3.size
      have HP3 : Hid (w3.rangeAt w.heap.size 0 [.int .i64 P0, .int .i64 P1, .int .i64 P2, .int .i64 P3, .int .i64 P4]) := range_below HP.out hb3 hsz
      clear HP hB
      go_wp2_with (refine wpList_load_mid rfl 23 (.tmp 5) rfl w.heap.size 0 rfl [.int .i64 P0, .int .i64 P1, .int .i64 P2, .int .i64 P3, .int .i64 P4] _ HP3.out Try.underlying23 rfl size23 ?_)
      refine (pool_any _ P0 P1 P2 P3 P4 _).mono ?_
      rintro e w4 ⟨rfl, hr4, hb4, hz4⟩
      have HR4 : Hid (w4.rangeAt (w3.heap.size + 1) 0 (lineC _ _ _ P0 P1 P2 P3 P4)) := hr4
      have hB4 : Below w.heap.size w w4 := hB3.trans (hb4.mono hB3.size)
      have hs4 : w3.heap.size + 1 < w4.heap.size := by omega
      have HC4 : Hid (∀ i, i < len0 → w4.cell? ⟨wr.heap.size, i, none⟩ = some (.int .i64 (zs.getD i 0))) := fun i hi => (hb4.cell (by exact hs3)).trans (HC3.out i hi)
      clear hr4 hz4
      go_wp2_with fail
      refine (lines_pos wr.heap.size len0 k (fun k => zs.getD k 0) _ hn0 hn1 hn2 hl (Nat.lt_of_lt_of_le hs3 hb4.size) HC4.out).mono ?_
      rintro e w5 ⟨rfl, hr5, hb5, hs5⟩
      have HR5 : Hid (∀ j, j < k → w5.rangeAt w4.heap.size (j * 9) (ln (fun k => zs.getD k 0) j)) := hr5
      clear hr5
      have hB5 : Below w.heap.size w w5 := hB4.trans (hb5.mono hB4.size)
      go_wp2_with fail
      refine (zzsum_some w5.heap.size w4.heap.size k (w3.heap.size + 1) _ (by omega) hs5 (by have := hb5.size; omega) (by simp) (by rw [World.cell?_alloc_at _ _ _ _ rfl]; rfl) (by rw [World.cell?_alloc_at _ _ _ _ rfl]; rfl) (there_of_new _ _ _ _ _ _ rfl (by simp)) (fun k => World.frozen?_alloc_at _ _ _ _ rfl) (fun j hj => line_of (World.rangeAt_alloc (HR5.out j hj) _) (HBAL.out j hj)) (line_of (World.rangeAt_alloc (range_below HR4.out hb5 hs4) _) HPB.out)).mono ?_
      rintro e w6 ⟨rfl, ⟨U, P, I, G, Y, hT, hBal⟩, hb6⟩
      have hB6 : Below w.heap.size w w6 := (hB5.alloc hB5.size _).trans (hb6.mono hB5.size)
      go_wp2_with (first
        | (refine wpList_load_mid rfl 33 (.tmp 80) rfl w5.heap.size 2 rfl (lineC tot mt mt U P I G Y) _ hT.rng Try.underlying33 rfl size33 ?_)
        | (refine store_line rfl (.tmp 10) (.tmp 81) rfl w6.heap.size tot mt mt U P I G Y rfl rfl (there_of_new _ _ _ _ _ _ rfl (by simp)) ?_; intro w7 hr7 hb7; have k5 : w7.cell? ⟨w6.heap.size, 5, none⟩ = some (.int .i64 P) := hr7 5 _ rfl; have k6 : w7.cell? ⟨w6.heap.size, 6, none⟩ = some (.int .i64 I) := hr7 6 _ rfl; have k7 : w7.cell? ⟨w6.heap.size, 7, none⟩ = some (.int .i64 G) := hr7 7 _ rfl; have k8 : w7.cell? ⟨w6.heap.size, 8, none⟩ = some (.int .i64 Y) := hr7 8 _ rfl; have hbt := bal_true hBal))
      go_ret
      exact ⟨rfl, hb7 _ _ hB6.size (hB6.alloc hB6.size _)⟩

set_option maxHeartbeats 3200000 in
set_option maxRecDepth 100000 in
theorem main_bad (b off len0 cap0 n : Nat) (zs : List Int) (P0 P1 P2 P3 P4 : Int) (w : World) (hn0 : 0 < n) (hn1 : 5 * n ≤ len0) (hn2 : len0 < 5 * n + 5) (hl : len0 ≤ 131072) (hbw : b < w.heap.size) (hc : ∀ i, i < len0 → w.cell? ⟨b, off + i, none⟩ = some (.int .i64 (zs.getD i 0))) (hpb : ¬ Bal P1 P2 P3 P4) :
    Calls Try.prog 4 #[.slice (some ⟨b, off, none⟩) len0 cap0, .bool true, .agg #[.int .i64 P0, .int .i64 P1, .int .i64 P2, .int .i64 P3, .int .i64 P4]] w fun e w' => e = .returned (.bool true) ∧ Below w.heap.size w w' := by
  have HC : Hid (∀ i, i < len0 → w.cell? ⟨b, off + i, none⟩ = some (.int .i64 (zs.getD i 0))) := hc
  clear hc
  have hpt := bal_bad hpb
  clear hpb
  have hB0 : Below w.heap.size w ((w.alloc (.cells #[.int .i64 P0, .int .i64 P1, .int .i64 P2, .int .i64 P3, .int .i64 P4] 23)).alloc (.cells #[.int .i64 P0, .int .i64 P1, .int .i64 P2, .int .i64 P3, .int .i64 P4] 23)) := ((Below.refl _ _).alloc (Nat.le_refl _) _).alloc (by simp) _
  have hP0 : ((w.alloc (.cells #[.int .i64 P0, .int .i64 P1, .int .i64 P2, .int .i64 P3, .int .i64 P4] 23)).alloc (.cells #[.int .i64 P0, .int .i64 P1, .int .i64 P2, .int .i64 P3, .int .i64 P4] 23)).rangeAt w.heap.size 0 [.int .i64 P0, .int .i64 P1, .int .i64 P2, .int .i64 P3, .int .i64 P4] := by
    intro j v hv
    rw [Nat.zero_add, World.cell?_alloc_past _ _ _ (by simp), World.cell?_alloc_at _ _ _ _ rfl, List.getElem?_toArray]
    exact hv
  go_enter Try.func4, Try.ntmps4
  go_wp2_with (go_at_call 10; go_in)
  go_loopw [8] (fun si wx => ∃ k : Nat, k ≤ n ∧ si = .int .i64 k ∧ (∀ j, j < k → Bal (zs.getD (5 * j + 1) 0) (zs.getD (5 * j + 2) 0) (zs.getD (5 * j + 3) 0) (zs.getD (5 * j + 4) 0)) ∧ Below w.heap.size w wx ∧ wx.rangeAt w.heap.size 0 [.int .i64 P0, .int .i64 P1, .int .i64 P2, .int .i64 P3, .int .i64 P4] ∧ w.heap.size < wx.heap.size) (fun si _ => n - (intOf si).toNat)
  case atStart => exact ⟨0, Nat.zero_le _, rfl, fun j h => absurd h (Nat.not_lt_zero _), hB0, hP0, by simp; omega⟩
  case round =>
    clear hB0 hP0
    obtain ⟨k, hk, rfl, hbal, hB, hPr, hsz⟩ := hrel
    have HP : Hid (wr.rangeAt w.heap.size 0 [.int .i64 P0, .int .i64 P1, .int .i64 P2, .int .i64 P3, .int .i64 P4]) := hPr
    have HBAL : Hid (∀ j, j < k → Bal (zs.getD (5 * j + 1) 0) (zs.getD (5 * j + 2) 0) (zs.getD (5 * j + 3) 0) (zs.getD (5 * j + 4) 0)) := hbal
    clear hPr hbal
    by_cases hlt : k < n
    · have x1 := (hB.cell (p := ⟨b, off + (5 * k + 1), none⟩) (by exact hbw)).trans (HC.out (5 * k + 1) (by omega))
      have x2 := (hB.cell (p := ⟨b, off + (5 * k + 2), none⟩) (by exact hbw)).trans (HC.out (5 * k + 2) (by omega))
      have x3 := (hB.cell (p := ⟨b, off + (5 * k + 3), none⟩) (by exact hbw)).trans (HC.out (5 * k + 3) (by omega))
      have x4 := (hB.cell (p := ⟨b, off + (5 * k + 4), none⟩) (by exact hbw)).trans (HC.out (5 * k + 4) (by omega))
      obtain ⟨v1, e1⟩ : ∃ v, v = zs.getD (5 * k + 1) 0 := ⟨_, rfl⟩
      obtain ⟨v2, e2⟩ : ∃ v, v = zs.getD (5 * k + 2) 0 := ⟨_, rfl⟩
      obtain ⟨v3, e3⟩ : ∃ v, v = zs.getD (5 * k + 3) 0 := ⟨_, rfl⟩
      obtain ⟨v4, e4⟩ : ∃ v, v = zs.getD (5 * k + 4) 0 := ⟨_, rfl⟩
      rw [← e1] at x1
      rw [← e2] at x2
      rw [← e3] at x3
      rw [← e4] at x4
      have HE : Hid (v1 = zs.getD (5 * k + 1) 0 ∧ v2 = zs.getD (5 * k + 2) 0 ∧ v3 = zs.getD (5 * k + 3) 0 ∧ v4 = zs.getD (5 * k + 4) 0) := ⟨e1, e2, e3, e4⟩
      clear e1 e2 e3 e4
      have i1 : (5 : Int) * (k : Int) + 1 < (len0 : Int) := by omega
      have i2 : (5 : Int) * (k : Int) + 2 < (len0 : Int) := by omega
      have i3 : (5 : Int) * (k : Int) + 3 < (len0 : Int) := by omega
      have i4 : (5 : Int) * (k : Int) + 4 < (len0 : Int) := by omega
      by_cases hbk : Bal v1 v2 v3 v4
      · have HBK : Hid (Bal v1 v2 v3 v4) := hbk
        have ht := bal_ne hbk
        clear hbk
        go_wp2
        go_quiet (fail)
        go_wp2
        go_roundw
        case rel =>
          refine ⟨k + 1, by omega, by go_num, fun j hj => ?_, below_draws hB _, HP.out, hsz⟩
          by_cases e : j = k
          · subst e
            have h := HBK.out
            rw [HE.out.1, HE.out.2.1, HE.out.2.2.1, HE.out.2.2.2] at h
            exact h
          · exact HBAL.out j (by omega)
        case measure => simp [intOf]; omega
      · have ht := bal_bad hbk
        clear hbk
        go_wp2
        go_quiet (fail)
        go_wp2
        go_ret
        exact ⟨rfl, below_draws hB _⟩
    · have ek : k = n := by omega
      subst ek
      have q1 : wr.cell? ⟨w.heap.size, 1, none⟩ = some (.int .i64 P1) := HP.out 1 _ rfl
      have q2 : wr.cell? ⟨w.heap.size, 2, none⟩ = some (.int .i64 P2) := HP.out 2 _ rfl
      have q3 : wr.cell? ⟨w.heap.size, 3, none⟩ = some (.int .i64 P3) := HP.out 3 _ rfl
      have q4 : wr.cell? ⟨w.heap.size, 4, none⟩ = some (.int .i64 P4) := HP.out 4 _ rfl
      go_wp2
      go_ret
      exact ⟨rfl, hB⟩

end Go.Proofs.Qxb6001442a.fnSumKeepsPayoutBalance
