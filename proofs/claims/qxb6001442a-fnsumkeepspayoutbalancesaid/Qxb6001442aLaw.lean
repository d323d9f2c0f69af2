import Derived.Test.Qxb6001442aLaw0
namespace Go.Proofs.Qxb6001442a.fnSumKeepsPayoutBalance
open Go.RowKit

set_option maxHeartbeats 400000 in
theorem law_long (a0 : Option Addr) (len0 cap0 : Nat) (hp : Bool) (P0 P1 P2 P3 P4 : Int) (w : World) (h : 131072 < len0) :
    Calls Try.prog 4 #[.slice a0 len0 cap0, .bool hp, .agg #[.int .i64 P0, .int .i64 P1, .int .i64 P2, .int .i64 P3, .int .i64 P4]] w fun e w' => e = .returned (.bool true) ∧ Below w.heap.size w w' := by
  by_cases h1 : 1048576 < len0
  · go_enter Try.func4, Try.ntmps4
    go_wp2
    go_ret
    exact ⟨rfl, ((Below.refl _ _).alloc (Nat.le_refl _) _).alloc (by simp) _⟩
  · have h2 : len0 ≤ 1048576 := by omega
    go_enter Try.func4, Try.ntmps4
    go_wp2
    go_ret
    exact ⟨rfl, ((Below.refl _ _).alloc (Nat.le_refl _) _).alloc (by simp) _⟩

set_option maxHeartbeats 3200000 in
set_option maxRecDepth 100000 in
theorem small_none (a0 : Option Addr) (len0 cap0 : Nat) (zs : List Int) (P0 P1 P2 P3 P4 : Int) (w : World) (hl : len0 < 5) (hrow : IsRow .i64 w a0 len0 cap0 zs) :
    Calls Try.prog 4 #[.slice a0 len0 cap0, .bool false, .agg #[.int .i64 P0, .int .i64 P1, .int .i64 P2, .int .i64 P3, .int .i64 P4]] w fun e w' => e = .returned (.bool true) ∧ Below w.heap.size w w' := by
  have HROW : Hid (IsRow .i64 w a0 len0 cap0 zs) := hrow
  clear hrow
  have hB0 : Below w.heap.size w ((w.alloc (.cells #[.int .i64 P0, .int .i64 P1, .int .i64 P2, .int .i64 P3, .int .i64 P4] 23)).alloc (.cells #[.int .i64 P0, .int .i64 P1, .int .i64 P2, .int .i64 P3, .int .i64 P4] 23)) := ((Below.refl _ _).alloc (Nat.le_refl _) _).alloc (by simp) _
  have hP0 : ((w.alloc (.cells #[.int .i64 P0, .int .i64 P1, .int .i64 P2, .int .i64 P3, .int .i64 P4] 23)).alloc (.cells #[.int .i64 P0, .int .i64 P1, .int .i64 P2, .int .i64 P3, .int .i64 P4] 23)).rangeAt w.heap.size 0 [.int .i64 P0, .int .i64 P1, .int .i64 P2, .int .i64 P3, .int .i64 P4] := by
    intro j v hv
    rw [Nat.zero_add, World.cell?_alloc_past _ _ _ (by simp), World.cell?_alloc_at _ _ _ _ rfl, List.getElem?_toArray]
    exact hv
  go_enter Try.func4, Try.ntmps4
  go_wp2_with (go_at_call 10; go_in)
  go_loopw [8] (fun si wx => si = .int .i64 0 ∧ Below w.heap.size w wx ∧ wx.rangeAt w.heap.size 0 [.int .i64 P0, .int .i64 P1, .int .i64 P2, .int .i64 P3, .int .i64 P4] ∧ w.heap.size < wx.heap.size) (fun _ _ => 0)
  case atStart => exact ⟨rfl, hB0, hP0, by simp; omega⟩
  case round =>
    clear hB0 hP0
    obtain ⟨rfl, hB, hPr, hsz⟩ := hrel
    have HP : Hid (wr.rangeAt w.heap.size 0 [.int .i64 P0, .int .i64 P1, .int .i64 P2, .int .i64 P3, .int .i64 P4]) := hPr
    clear hPr
    go_wp2_with fail
    refine (clone_any a0 len0 cap0 zs _ (row_below HROW.out hB) (by omega)).mono ?_
    rintro e w3 ⟨⟨a', rfl⟩, hb3⟩
    have hB3 : Below w.heap.size w w3 := hB.trans (hb3.mono hB.size)
    have hs3' : w.heap.size < w3.heap.size := Nat.lt_of_lt_of_le hsz hb3.size
    have HP3 : Hid (w3.rangeAt w.heap.size 0 [.int .i64 P0, .int .i64 P1, .int .i64 P2, .int .i64 P3, .int .i64 P4]) := range_below HP.out hb3 hsz
    clear HP hB
    go_wp2_with fail
    refine (lines_zero a' len0 _ hl).mono ?_
    rintro e w5 ⟨rfl, hb5, hs5⟩
    have hB5 : Below w.heap.size w w5 := hB3.trans (hb5.mono hB3.size)
    go_wp2_with fail
    refine (zzsum_none w5.heap.size w3.heap.size 0 _ (by omega) hs5 (by simp) (by rw [World.cell?_alloc_at _ _ _ _ rfl]; rfl) (by rw [World.cell?_alloc_at _ _ _ _ rfl]; rfl) (there_of_new _ _ _ _ _ _ rfl (by simp)) (fun k => World.frozen?_alloc_at _ _ _ _ rfl) (fun j hj => by omega)).mono ?_
    rintro e w6 ⟨rfl, ⟨U, P, I, G, Y, hT, hBal⟩, hb6⟩
    have hB6 : Below w.heap.size w w6 := (hB5.alloc hB5.size _).trans (hb6.mono hB5.size)
    go_wp2_with (first
      | (refine wpList_load_mid rfl 33 (.tmp 80) rfl w5.heap.size 2 rfl (lineC tot mt mt U P I G Y) _ hT.rng Try.underlying33 rfl size33 ?_)
      | (refine store_line rfl (.tmp 10) (.tmp 81) rfl w6.heap.size tot mt mt U P I G Y rfl rfl (there_of_new _ _ _ _ _ _ rfl (by simp)) ?_; intro w7 hr7 hb7; have k5 : w7.cell? ⟨w6.heap.size, 5, none⟩ = some (.int .i64 P) := hr7 5 _ rfl; have k6 : w7.cell? ⟨w6.heap.size, 6, none⟩ = some (.int .i64 I) := hr7 6 _ rfl; have k7 : w7.cell? ⟨w6.heap.size, 7, none⟩ = some (.int .i64 G) := hr7 7 _ rfl; have k8 : w7.cell? ⟨w6.heap.size, 8, none⟩ = some (.int .i64 Y) := hr7 8 _ rfl; have hbt := bal_true hBal))
    go_ret
    exact ⟨rfl, hb7 _ _ hB6.size (hB6.alloc hB6.size _)⟩

set_option maxHeartbeats 3200000 in
set_option maxRecDepth 100000 in
theorem small_some (a0 : Option Addr) (len0 cap0 : Nat) (zs : List Int) (P0 P1 P2 P3 P4 : Int) (w : World) (hl : len0 < 5) (hrow : IsRow .i64 w a0 len0 cap0 zs) (hpb : Bal P1 P2 P3 P4) :
    Calls Try.prog 4 #[.slice a0 len0 cap0, .bool true, .agg #[.int .i64 P0, .int .i64 P1, .int .i64 P2, .int .i64 P3, .int .i64 P4]] w fun e w' => e = .returned (.bool true) ∧ Below w.heap.size w w' := by
  have HROW : Hid (IsRow .i64 w a0 len0 cap0 zs) := hrow
  clear hrow
  have HPB : Hid (Bal P1 P2 P3 P4) := hpb
  have hpt := bal_ne hpb
  clear hpb
  have hB0 : Below w.heap.size w ((w.alloc (.cells #[.int .i64 P0, .int .i64 P1, .int .i64 P2, .int .i64 P3, .int .i64 P4] 23)).alloc (.cells #[.int .i64 P0, .int .i64 P1, .int .i64 P2, .int .i64 P3, .int .i64 P4] 23)) := ((Below.refl _ _).alloc (Nat.le_refl _) _).alloc (by simp) _
  have hP0 : ((w.alloc (.cells #[.int .i64 P0, .int .i64 P1, .int .i64 P2, .int .i64 P3, .int .i64 P4] 23)).alloc (.cells #[.int .i64 P0, .int .i64 P1, .int .i64 P2, .int .i64 P3, .int .i64 P4] 23)).rangeAt w.heap.size 0 [.int .i64 P0, .int .i64 P1, .int .i64 P2, .int .i64 P3, .int .i64 P4] := by
    intro j v hv
    rw [Nat.zero_add, World.cell?_alloc_past _ _ _ (by simp), World.cell?_alloc_at _ _ _ _ rfl, List.getElem?_toArray]
    exact hv
  go_enter Try.func4, Try.ntmps4
  go_wp2_with (go_at_call 10; go_in)
  go_loopw [8] (fun si wx => si = .int .i64 0 ∧ Below w.heap.size w wx ∧ wx.rangeAt w.heap.size 0 [.int .i64 P0, .int .i64 P1, .int .i64 P2, .int .i64 P3, .int .i64 P4] ∧ w.heap.size < wx.heap.size) (fun _ _ => 0)
  case atStart => exact ⟨rfl, hB0, hP0, by simp; omega⟩
  case round =>
    clear hB0 hP0
    obtain ⟨rfl, hB, hPr, hsz⟩ := hrel
    have HP : Hid (wr.rangeAt w.heap.size 0 [.int .i64 P0, .int .i64 P1, .int .i64 P2, .int .i64 P3, .int .i64 P4]) := hPr
    clear hPr
    have q1 : wr.cell? ⟨w.heap.size, 1, none⟩ = some (.int .i64 P1) := HP.out 1 _ rfl
    have q2 : wr.cell? ⟨w.heap.size, 2, none⟩ = some (.int .i64 P2) := HP.out 2 _ rfl
    have q3 : wr.cell? ⟨w.heap.size, 3, none⟩ = some (.int .i64 P3) := HP.out 3 _ rfl
    have q4 : wr.cell? ⟨w.heap.size, 4, none⟩ = some (.int .i64 P4) := HP.out 4 _ rfl
    go_wp2_with fail
    clear q1 q2 q3 q4
    refine (clone_any a0 len0 cap0 zs _ (row_below HROW.out hB) (by omega)).mono ?_
    rintro e w3 ⟨⟨a', rfl⟩, hb3⟩
    have hB3 : Below w.heap.size w w3 := hB.trans (hb3.mono hB.size)
    have hs3' : w.heap.size < w3.heap.size := Nat.lt_of_lt_of_le hsz hb3.size
    have HP3 : Hid (w3.rangeAt w.heap.size 0 [.int .i64 P0, .int .i64 P1, .int .i64 P2, .int .i64 P3, .int .i64 P4]) := range_below HP.out hb3 hsz
    clear HP hB
    go_wp2_with (refine wpList_load_mid rfl 23 (.tmp 5) rfl w.heap.size 0 rfl [.int .i64 P0, .int .i64 P1, .int .i64 P2, .int .i64 P3, .int .i64 P4] _ HP3.out Try.underlying23 rfl size23 ?_)
    refine (pool_any _ P0 P1 P2 P3 P4 _).mono ?_
    rintro e w4 ⟨rfl, hr4, hb4, hz4⟩
    have HR4 : Hid (w4.rangeAt (w3.heap.size + 1) 0 (lineC _ _ _ P0 P1 P2 P3 P4)) := hr4
    have hB4 : Below w.heap.size w w4 := hB3.trans (hb4.mono hB3.size)
    have hs4 : w3.heap.size + 1 < w4.heap.size := by omega
    clear hr4 hz4
    go_wp2_with fail
    refine (lines_zero a' len0 _ hl).mono ?_
    rintro e w5 ⟨rfl, hb5, hs5⟩
    have hB5 : Below w.heap.size w w5 := hB4.trans (hb5.mono hB4.size)
    go_wp2_with fail
    refine (zzsum_some w5.heap.size w4.heap.size 0 (w3.heap.size + 1) _ (by omega) hs5 (by have := hb5.size; omega) (by simp) (by rw [World.cell?_alloc_at _ _ _ _ rfl]; rfl) (by rw [World.cell?_alloc_at _ _ _ _ rfl]; rfl) (there_of_new _ _ _ _ _ _ rfl (by simp)) (fun k => World.frozen?_alloc_at _ _ _ _ rfl) (fun j hj => by omega) (line_of (World.rangeAt_alloc (range_below HR4.out hb5 hs4) _) HPB.out)).mono ?_
    rintro e w6 ⟨rfl, ⟨U, P, I, G, Y, hT, hBal⟩, hb6⟩
    have hB6 : Below w.heap.size w w6 := (hB5.alloc hB5.size _).trans (hb6.mono hB5.size)
    go_wp2_with (first
      | (refine wpList_load_mid rfl 33 (.tmp 80) rfl w5.heap.size 2 rfl (lineC tot mt mt U P I G Y) _ hT.rng Try.underlying33 rfl size33 ?_)
      | (refine store_line rfl (.tmp 10) (.tmp 81) rfl w6.heap.size tot mt mt U P I G Y rfl rfl (there_of_new _ _ _ _ _ _ rfl (by simp)) ?_; intro w7 hr7 hb7; have k5 : w7.cell? ⟨w6.heap.size, 5, none⟩ = some (.int .i64 P) := hr7 5 _ rfl; have k6 : w7.cell? ⟨w6.heap.size, 6, none⟩ = some (.int .i64 I) := hr7 6 _ rfl; have k7 : w7.cell? ⟨w6.heap.size, 7, none⟩ = some (.int .i64 G) := hr7 7 _ rfl; have k8 : w7.cell? ⟨w6.heap.size, 8, none⟩ = some (.int .i64 Y) := hr7 8 _ rfl; have hbt := bal_true hBal))
    go_ret
    exact ⟨rfl, hb7 _ _ hB6.size (hB6.alloc hB6.size _)⟩

set_option maxHeartbeats 3200000 in
set_option maxRecDepth 100000 in
theorem small_bad (a0 : Option Addr) (len0 cap0 : Nat) (P0 P1 P2 P3 P4 : Int) (w : World) (hl : len0 < 5) (hpb : ¬ Bal P1 P2 P3 P4) :
    Calls Try.prog 4 #[.slice a0 len0 cap0, .bool true, .agg #[.int .i64 P0, .int .i64 P1, .int .i64 P2, .int .i64 P3, .int .i64 P4]] w fun e w' => e = .returned (.bool true) ∧ Below w.heap.size w w' := by
  have hpt := bal_bad hpb
  clear hpb
  have hB0 : Below w.heap.size w ((w.alloc (.cells #[.int .i64 P0, .int .i64 P1, .int .i64 P2, .int .i64 P3, .int .i64 P4] 23)).alloc (.cells #[.int .i64 P0, .int .i64 P1, .int .i64 P2, .int .i64 P3, .int .i64 P4] 23)) := ((Below.refl _ _).alloc (Nat.le_refl _) _).alloc (by simp) _
  have hP0 : ((w.alloc (.cells #[.int .i64 P0, .int .i64 P1, .int .i64 P2, .int .i64 P3, .int .i64 P4] 23)).alloc (.cells #[.int .i64 P0, .int .i64 P1, .int .i64 P2, .int .i64 P3, .int .i64 P4] 23)).rangeAt w.heap.size 0 [.int .i64 P0, .int .i64 P1, .int .i64 P2, .int .i64 P3, .int .i64 P4] := by
    intro j v hv
    rw [Nat.zero_add, World.cell?_alloc_past _ _ _ (by simp), World.cell?_alloc_at _ _ _ _ rfl, List.getElem?_toArray]
    exact hv
  go_enter Try.func4, Try.ntmps4
  go_wp2_with (go_at_call 10; go_in)
  go_loopw [8] (fun si wx => si = .int .i64 0 ∧ Below w.heap.size w wx ∧ wx.rangeAt w.heap.size 0 [.int .i64 P0, .int .i64 P1, .int .i64 P2, .int .i64 P3, .int .i64 P4] ∧ w.heap.size < wx.heap.size) (fun _ _ => 0)
  case atStart => exact ⟨rfl, hB0, hP0, by simp; omega⟩
  case round =>
    clear hB0 hP0
    obtain ⟨rfl, hB, hPr, hsz⟩ := hrel
    have HP : Hid (wr.rangeAt w.heap.size 0 [.int .i64 P0, .int .i64 P1, .int .i64 P2, .int .i64 P3, .int .i64 P4]) := hPr
    clear hPr
    have q1 : wr.cell? ⟨w.heap.size, 1, none⟩ = some (.int .i64 P1) := HP.out 1 _ rfl
    have q2 : wr.cell? ⟨w.heap.size, 2, none⟩ = some (.int .i64 P2) := HP.out 2 _ rfl
    have q3 : wr.cell? ⟨w.heap.size, 3, none⟩ = some (.int .i64 P3) := HP.out 3 _ rfl
    have q4 : wr.cell? ⟨w.heap.size, 4, none⟩ = some (.int .i64 P4) := HP.out 4 _ rfl
    go_wp2
    go_ret
    exact ⟨rfl, hB⟩

end Go.Proofs.Qxb6001442a.fnSumKeepsPayoutBalance
