import Derived.Test.Qxb6601249aScript0
namespace Go.Proofs.Qxb6601249a.fnInPlayAddScriptKeepsLastSixteen
open Go.RowKit

/-- What the walk is told of a slice of integers that came in. -/
def IsRow (k : IntKind) (w : World) (a : Option Addr) (len cap : Nat) (zs : List Int) : Prop :=
  (a = none ∧ len = 0 ∧ cap = 0 ∧ zs = []) ∨
  ∃ x, a = some x ∧ len ≤ cap ∧ cap ≤ maxLen ∧ zs.length = cap ∧ (∀ i, i < zs.length → w.cell? (x.add i) = some (.int k (zs.getD i 0))) ∧ ∀ n ∈ zs, (Lit.int k n).wf = true

set_option maxHeartbeats 400000 in
theorem law_long (a0 : Option Addr) (len0 cap0 : Nat) (w : World) (h : 65536 < len0) :
    Calls Try.prog 4 #[.slice a0 len0 cap0] w fun e w' => e = .returned (.bool true) ∧ Below w.heap.size w w' := by
  by_cases h1 : 1048576 < len0
  · go_enter Try.func4, Try.ntmps4
    go_wp2
    go_ret
    exact ⟨rfl, Below.refl _ _⟩
  · have h2 : len0 ≤ 1048576 := by omega
    go_enter Try.func4, Try.ntmps4
    go_wp2
    go_ret
    exact ⟨rfl, Below.refl _ _⟩

set_option maxHeartbeats 3200000 in
set_option maxRecDepth 100000 in
theorem law_pos (b off len0 cap0 : Nat) (z : Nat → Int) (w : World) (hp : 0 < len0) (hl : len0 ≤ 65536) (hb : b < w.heap.size) (hzb : ∀ k, z k ≤ 9223372036854775807)
    (hc : ∀ i, i < len0 → w.cell? ⟨b, off + i, none⟩ = some (.int .i64 (z i))) :
    Calls Try.prog 4 #[.slice (some ⟨b, off, none⟩) len0 cap0] w fun e w' => e = .returned (.bool true) ∧ Below w.heap.size w w' := by
  have hnil := fun (w : World) (a : Option Addr) (n c : Nat) => run_neq_slice_nil_any (P := Try.prog) w 30 3 a n c 0 0 Try.underlying30
  obtain ⟨i0, hi, hz0, hz1, hz2⟩ := info_parts info3
  have HC : Hid (∀ i, i < len0 → w.cell? ⟨b, off + i, none⟩ = some (.int .i64 (z i))) := hc
  have HZB : Hid (∀ k, z k ≤ 9223372036854775807) := hzb
  clear hc hzb
  go_enter Try.func4, Try.ntmps4
  go_wp2_with (first
    | (go_at_call 9; go_in)
    | (at_make; refine wpList_make_full _ rfl _ _ 30 rfl w.heap.size 3 i0 (.int .i64 0) 1 Try.underlying30 hi hz0 hz1 _ _ _ _ len0 rfl rfl rfl rfl ?b2 ?b3 (Nat.le_refl _) ?_))
  case b2 => rw [hz2]; omega
  case b3 => unfold maxLen; omega
  intro w0 hown0 hgrow0
  have hb0 : Below w.heap.size w w0 := (Below.refl _ _).grown hgrow0 (Nat.le_refl _) (fun k h => by cases h)
  clear hgrow0
  go_wp2
  go_loopw [4] (fun i wr => ∃ (k : Nat) (xs : List Value), k ≤ len0 ∧ i = .int .i64 k ∧ wr.ownsRow w.heap.size 3 1 (.slice (some ⟨w.heap.size, 0, none⟩) len0 len0) len0 xs ∧
      (∀ j, j < k → xs[j]? = some (.int .i64 (z j))) ∧ Below w.heap.size w wr) (fun i _ => len0 - (intOf i).toNat)
  case atStart => exact ⟨0, _, Nat.zero_le _, rfl, hown0, fun j h => absurd h (Nat.not_lt_zero _), hb0⟩
  case round =>
    obtain ⟨k, xs, hk, rfl, hown, hxs, hbel⟩ := hrel
    by_cases hlt : k < len0
    · have hcx : wr.cell? ⟨b, off + k, none⟩ = some (.int .i64 (z k)) := (hbel.cell (by exact hb)).trans (HC.out k hlt)
      have hfz := hown.frozenAt k
      have hxk : k < xs.length := by have := hown.1; omega
      have hcell := hown.cellAt k (by omega)
      rw [List.getElem?_eq_getElem hxk] at hcell
      have R := hown.stored k (.int .i64 (z k))
      have hbel' := hbel.setCell (p := ⟨w.heap.size, k, none⟩) (Nat.le_refl _) (.int .i64 (z k))
      clear hown
      go_wp2
      go_roundw
      case rel => exact ⟨k + 1, _, by omega, by go_num, by simpa using R.1, set_ok hxs hxk, by simpa using hbel'⟩
      case measure => simp [intOf]; omega
    · have HV : Hid (∀ i, i < len0 → wr.cell? ⟨w.heap.size, i, none⟩ = some (.int .i64 (z i))) := fun i hi => by
        rw [hown.cellAt i (by omega), hxs i (by omega)]
      have hsz : w.heap.size < wr.heap.size := (hown.lt w.heap.size rfl).2
      clear hown hxs hown0 hb0
      obtain ⟨w1, hw1⟩ : ∃ w1, w1 = wr := ⟨_, rfl⟩
      subst hw1
      go_wp2_with fail
      refine (new_zero _).mono ?_
      rintro e w2 ⟨rfl, hP2, hb2, hz2'⟩
      have HV2 : Hid (∀ i, i < len0 → w2.cell? ⟨w.heap.size, i, none⟩ = some (.int .i64 (z i))) := fun i hi => (hb2.cell (by exact hsz)).trans (HV.out i hi)
      have hbel2 : Below w.heap.size w w2 := hbel.trans (hb2.mono hbel.size)
      have hs2 : w1.heap.size + 1 < w2.heap.size := by omega
      have hP2' : IP w2 (w1.heap.size + 1) (st z 0) ((0 % 16 : Nat) : Int) (verdict (st z 0)) := by
        show IP w2 (w1.heap.size + 1) (fun _ => 0) 0 (verdict (fun _ => 0)); rw [verdict_zero]; exact hP2
      clear hP2 hb2 hz2' HV
      go_wp2
      go_loopw [7] (fun si wx => ∃ k : Nat, k ≤ len0 ∧ si = .int .i64 k ∧ IP wx (w1.heap.size + 1) (st z k) ((k % 16 : Nat) : Int) (verdict (st z k)) ∧ Below (w1.heap.size + 1) w2 wx) (fun si _ => len0 - (intOf si).toNat)
      case atStart => exact ⟨0, Nat.zero_le _, rfl, hP2', Below.refl _ _⟩
      case round =>
        clear hP2'
        obtain ⟨k, hk, rfl, hP, hbx⟩ := hrel
        by_cases hlt : k < len0
        · have hck := (hbx.cell (p := ⟨w.heap.size, k, none⟩) (by simp; omega)).trans (HV2.out k hlt)
          have HP : Hid _ := hP
          clear hP
          go_wp2_with (go_at_call 6; refine (zzadd_any (w1.heap.size + 1) (k % 16) _ _ _ _ (by omega) HP.out (fun j _ => st_le _ HZB.out _ _) (HZB.out k)).mono ?_; rintro e w3 ⟨rfl, hP3, hb3⟩)
          go_roundw
          case rel => exact ⟨k + 1, by omega, by go_num, ip_cast hP3 (by omega), hbx.trans hb3⟩
          case measure => simp [intOf]; omega
        · have ek : k = len0 := by omega
          subst ek
          have hsx : w1.heap.size + 1 < wr.heap.size := Nat.lt_of_lt_of_le hs2 hbx.size
          have HVx : Hid (∀ i, i < k → wr.cell? ⟨w.heap.size, i, none⟩ = some (.int .i64 (z i))) := fun i hi => (hbx.cell (by simp; omega)).trans (HV2.out i hi)
          have hbelx : Below w.heap.size w wr := hbel2.trans (hbx.mono (by omega))
          clear hbx HV2 hbel2
          go_wp2_with fail
          refine (state_any (w1.heap.size + 1) _ _ _ _ hP hsx).mono ?_
          rintro e w4 ⟨rfl, hb4⟩
          have HV4 : Hid (∀ i, i < k → w4.cell? ⟨w.heap.size, i, none⟩ = some (.int .i64 (z i))) := fun i hi => (hb4.cell (by simp; omega)).trans (HVx.out i hi)
          have hbel4 : Below w.heap.size w w4 := hbelx.trans (hb4.mono hbelx.size)
          have hs4 : w.heap.size < w4.heap.size := by have := hb4.size; omega
          obtain ⟨g, hg⟩ : ∃ g, g = st z k := ⟨_, rfl⟩
          rw [← hg]
          have HG : Hid (g = st z k) := hg
          clear hP hb4 hbelx HVx hg
          go_wp2_with (refine store_arr rfl (.tmp 8) (.tmp 57) rfl w4.heap.size g rfl rfl (there_new _ _ rfl _ rfl _) (fun k => World.frozen?_alloc_at _ _ _ _ rfl) ?_; intro w5 hA5 hB5 hz5 hc5; simp only [World.size_alloc] at hz5)
          have hA6 : Arr (w5.alloc (.cells #[.int .i64 0, .int .i64 0, .int .i64 0, .int .i64 0, .int .i64 0, .int .i64 0, .int .i64 0, .int .i64 0, .int .i64 0, .int .i64 0, .int .i64 0, .int .i64 0, .int .i64 0, .int .i64 0, .int .i64 0, .int .i64 0] 22)) (w4.heap.size + 1) (fun _ => 0) := arr_zero w5 _ hz5.symm
          have hG6 : ∀ i, i < 16 → (w5.alloc (.cells #[.int .i64 0, .int .i64 0, .int .i64 0, .int .i64 0, .int .i64 0, .int .i64 0, .int .i64 0, .int .i64 0, .int .i64 0, .int .i64 0, .int .i64 0, .int .i64 0, .int .i64 0, .int .i64 0, .int .i64 0, .int .i64 0] 22)).cell? ⟨w4.heap.size, i, none⟩ = some (.int .i64 (g i)) := fun i hi => by
            rw [World.cell?_alloc_past _ _ _ (by omega)]; exact hA5.cell i hi
          have hV6 : ∀ i, i < k → (w5.alloc (.cells #[.int .i64 0, .int .i64 0, .int .i64 0, .int .i64 0, .int .i64 0, .int .i64 0, .int .i64 0, .int .i64 0, .int .i64 0, .int .i64 0, .int .i64 0, .int .i64 0, .int .i64 0, .int .i64 0, .int .i64 0, .int .i64 0] 22)).cell? ⟨w.heap.size, i, none⟩ = some (.int .i64 (z i)) := fun i hi => by
            rw [World.cell?_alloc_past _ _ _ (by omega), hc5 _ _ (by omega), World.cell?_alloc_past _ _ _ hs4]; exact HV4.out i hi
          have hB6 : Below w.heap.size w (w5.alloc (.cells #[.int .i64 0, .int .i64 0, .int .i64 0, .int .i64 0, .int .i64 0, .int .i64 0, .int .i64 0, .int .i64 0, .int .i64 0, .int .i64 0, .int .i64 0, .int .i64 0, .int .i64 0, .int .i64 0, .int .i64 0, .int .i64 0] 22)) :=
            (hB5 _ _ (by omega) (hbel4.alloc (by omega) _)).alloc (by omega) _
          clear hA5 hB5 hz5 hc5 HV4 hbel4
          go_loopw [12] (fun sj wx => ∃ (j : Nat) (h : Nat → Int), j ≤ 16 ∧ sj = .int .i64 j ∧ Arr wx (w4.heap.size + 1) h ∧ (∀ i, i < j → h i = wantF z k i) ∧ (∀ i, j ≤ i → h i = 0) ∧
              (∀ i, i < 16 → wx.cell? ⟨w4.heap.size, i, none⟩ = some (.int .i64 (g i))) ∧ (∀ i, i < k → wx.cell? ⟨w.heap.size, i, none⟩ = some (.int .i64 (z i))) ∧ Below w.heap.size w wx) (fun sj _ => 16 - (intOf sj).toNat)
          case atStart => exact ⟨0, fun _ => 0, by omega, rfl, hA6, fun i hi => by omega, fun i _ => rfl, hG6, hV6, hB6⟩
          case round =>
            clear hA6 hG6 hV6 hB6
            obtain ⟨j, h, hj, rfl, hA, hw1, hw2, hG, hV, hB⟩ := hrel
            have HW1 : Hid (∀ i, i < j → h i = wantF z k i) := hw1
            have HW2 : Hid (∀ i, j ≤ i → h i = 0) := hw2
            have HGG : Hid (∀ i, i < 16 → wr.cell? ⟨w4.heap.size, i, none⟩ = some (.int .i64 (g i))) := hG
            have HVV : Hid (∀ i, i < k → wr.cell? ⟨w.heap.size, i, none⟩ = some (.int .i64 (z i))) := hV
            clear hw1 hw2 hG hV
            by_cases hlt : j < 16
            · by_cases hjk : j < k
              · have hcv := HVV.out (j + 16 * ((k - 1 - j) / 16)) (by omega)
                have cj := hA.cell j hlt
                have fj := hA.fz j
                go_wp2
                go_roundw
                case rel => exact ⟨j + 1, upd h j (z (j + 16 * ((k - 1 - j) / 16))), by omega, by go_num, hA.set j _ hlt, want_hit HW1.out hjk, want_rest HW2.out, cells_set HGG.out _ (by omega), cells_set HVV.out _ (by omega), hB.setCell (by simp; omega) _⟩
                case measure => simp [intOf]; omega
              · go_wp2
                go_roundw
                case rel => exact ⟨j + 1, h, by omega, by go_num, hA, want_miss HW1.out HW2.out hjk, fun i hi => HW2.out i (by omega), HGG.out, HVV.out, hB⟩
                case measure => simp [intOf]; omega
            · have ej : j = 16 := by omega
              subst ej
              have HHH : Hid (∀ i, i < 16 → wr.cell? ⟨w4.heap.size + 1, i, none⟩ = some (.int .i64 (g i))) := fun i hi => by
                rw [hA.cell i hi, HW1.out i hi, HG.out, st_want z k i hi]
              have HFG : Hid (∀ i, i < 16 → g i ≤ 9223372036854775807) := fun i _ => by rw [HG.out]; exact st_le _ HZB.out _ _
              have e2 : (((k : Int) % 16) != (k : Int) % 16) = false := by simp
              clear HW1 HW2 hA HVV
              go_wp2
              go_loopw [13] (fun si wx => ∃ m : Nat, m ≤ 16 ∧ si = .int .i64 m ∧ (∀ i, i < 16 → wx.cell? ⟨w4.heap.size, i, none⟩ = some (.int .i64 (g i))) ∧ (∀ i, i < 16 → wx.cell? ⟨w4.heap.size + 1, i, none⟩ = some (.int .i64 (g i))) ∧ Below w.heap.size w wx) (fun si _ => 16 - (intOf si).toNat)
              case atStart => exact ⟨0, by omega, rfl, HGG.out, HHH.out, hB⟩
              case round =>
                clear HGG HHH hB
                obtain ⟨m, hm, rfl, hG, hH, hB⟩ := hrel
                have HGG : Hid (∀ i, i < 16 → wr.cell? ⟨w4.heap.size, i, none⟩ = some (.int .i64 (g i))) := hG
                have HHH : Hid (∀ i, i < 16 → wr.cell? ⟨w4.heap.size + 1, i, none⟩ = some (.int .i64 (g i))) := hH
                clear hG hH
                by_cases hlt : m < 16
                · have h1 := HGG.out m hlt
                  have h2 := HHH.out m hlt
                  have b1' : (m : Int) < 16 := by omega
                  have b0' : (0 : Int) ≤ (m : Int) := by omega
                  go_wp2
                  go_quiet (fail)
                  go_wp2
                  go_roundw
                  case rel => exact ⟨m + 1, by omega, by go_num, HGG.out, HHH.out, below_draws hB _⟩
                  case measure => simp [intOf]; omega
                · have em : m = 16 := by omega
                  subst em
                  go_wp2_with (first
                    | (refine wpList_load_mid rfl 22 (.tmp 11) rfl (w4.heap.size + 1) 0 rfl (row g) _ ?_ Try.underlying22 rfl (by rw [row_length]; exact info22) ?_; (exact Arr.range HHH.out))
                    | (go_at_call 8; refine (sixth_any g _ HFG.out).mono ?_; rintro e w7 ⟨rfl, hb7⟩))
                  go_ret
                  exact ⟨by simp, hB.trans (hb7.mono hB.size)⟩

set_option maxHeartbeats 3200000 in
set_option maxRecDepth 100000 in
theorem law_nil (w1 : World) : Calls Try.prog 4 #[.slice none 0 0] w1 fun e w' => e = .returned (.bool true) ∧ Below w1.heap.size w1 w' := by
  have hnil := fun (w : World) (a : Option Addr) (n c : Nat) => run_neq_slice_nil_any (P := Try.prog) w 30 3 a n c 0 0 Try.underlying30
  have hbel : Below w1.heap.size w1 w1 := Below.refl _ _
  go_enter Try.func4, Try.ntmps4
  go_wp2_with (go_at_call 9; go_in)
  refine (new_zero _).mono ?_
  rintro e w2 ⟨rfl, hP2, hb2, hz2'⟩
  have hbel2 : Below w1.heap.size w1 w2 := hbel.trans (hb2.mono hbel.size)
  have hs2 : w1.heap.size + 1 < w2.heap.size := by omega
  clear hb2 hz2'
  go_wp2
  go_loop [7] (fun si => si = .int .i64 0) (fun _ => 0)
  case atStart => rfl
  case round =>
    subst hrel
    go_wp2_with fail
    refine (state_any (w1.heap.size + 1) _ _ _ _ hP2 hs2).mono ?_
    rintro e w4 ⟨rfl, hb4⟩
    have hbel4 : Below w1.heap.size w1 w4 := hbel2.trans (hb4.mono hbel2.size)
    have hs4 : w1.heap.size ≤ w4.heap.size := hbel4.size
    clear hP2 hb4 hbel2
    go_wp2_with (refine store_arr rfl (.tmp 8) (.tmp 57) rfl w4.heap.size (fun _ => 0) rfl rfl (there_new _ _ rfl _ rfl _) (fun k => World.frozen?_alloc_at _ _ _ _ rfl) ?_; intro w5 hA5 hB5 hz5 hc5; simp only [World.size_alloc] at hz5)
    have HHH : Hid (∀ i, i < 16 → (w5.alloc (.cells #[.int .i64 0, .int .i64 0, .int .i64 0, .int .i64 0, .int .i64 0, .int .i64 0, .int .i64 0, .int .i64 0, .int .i64 0, .int .i64 0, .int .i64 0, .int .i64 0, .int .i64 0, .int .i64 0, .int .i64 0, .int .i64 0] 22)).cell? ⟨w4.heap.size + 1, i, none⟩ = some (.int .i64 0)) := (arr_zero w5 _ hz5.symm).cell
    have HGG : Hid (∀ i, i < 16 → (w5.alloc (.cells #[.int .i64 0, .int .i64 0, .int .i64 0, .int .i64 0, .int .i64 0, .int .i64 0, .int .i64 0, .int .i64 0, .int .i64 0, .int .i64 0, .int .i64 0, .int .i64 0, .int .i64 0, .int .i64 0, .int .i64 0, .int .i64 0] 22)).cell? ⟨w4.heap.size, i, none⟩ = some (.int .i64 0)) := fun i hi => by
      rw [World.cell?_alloc_past _ _ _ (by omega)]; exact hA5.cell i hi
    have hB : Below w1.heap.size w1 (w5.alloc (.cells #[.int .i64 0, .int .i64 0, .int .i64 0, .int .i64 0, .int .i64 0, .int .i64 0, .int .i64 0, .int .i64 0, .int .i64 0, .int .i64 0, .int .i64 0, .int .i64 0, .int .i64 0, .int .i64 0, .int .i64 0, .int .i64 0] 22)) := (hB5 _ _ (by omega) (hbel4.alloc (by omega) _)).alloc (by omega) _
    have HFG : Hid (∀ i : Nat, i < 16 → (fun _ => (0 : Int)) i ≤ 9223372036854775807) := fun _ _ => by simp
    clear hA5 hB5 hz5 hc5 hbel4
    go_loop [12] (fun sj => ∃ j : Nat, j ≤ 16 ∧ sj = .int .i64 j) (fun sj => 16 - (intOf sj).toNat)
    case atStart => exact ⟨0, by omega, rfl⟩
    case round =>
      obtain ⟨j, hj, rfl⟩ := hrel
      by_cases hlt : j < 16
      · go_wp2
        go_round
        case rel => exact ⟨j + 1, by omega, by go_num⟩
        case measure => simp [intOf]; omega
      · have ej : j = 16 := by omega
        subst ej
        go_wp2
        go_loopw [13] (fun si wx => ∃ m : Nat, m ≤ 16 ∧ si = .int .i64 m ∧ (∀ i, i < 16 → wx.cell? ⟨w4.heap.size, i, none⟩ = some (.int .i64 (0))) ∧ (∀ i, i < 16 → wx.cell? ⟨w4.heap.size + 1, i, none⟩ = some (.int .i64 (0))) ∧ Below w1.heap.size w1 wx) (fun si _ => 16 - (intOf si).toNat)
        case atStart => exact ⟨0, by omega, rfl, HGG.out, HHH.out, hB⟩
        case round =>
          clear HGG HHH hB
          obtain ⟨m, hm, rfl, hG, hH, hB⟩ := hrel
          have HGG : Hid (∀ i, i < 16 → wr.cell? ⟨w4.heap.size, i, none⟩ = some (.int .i64 (0))) := hG
          have HHH : Hid (∀ i, i < 16 → wr.cell? ⟨w4.heap.size + 1, i, none⟩ = some (.int .i64 (0))) := hH
          clear hG hH
          by_cases hlt : m < 16
          · have h1 := HGG.out m hlt
            have h2 := HHH.out m hlt
            have b1' : (m : Int) < 16 := by omega
            have b0' : (0 : Int) ≤ (m : Int) := by omega
            go_wp2
            go_quiet (fail)
            go_wp2
            go_roundw
            case rel => exact ⟨m + 1, by omega, by go_num, HGG.out, HHH.out, below_draws hB _⟩
            case measure => simp [intOf]; omega
          · have em : m = 16 := by omega
            subst em
            go_wp2_with (first
              | (refine wpList_load_mid rfl 22 (.tmp 11) rfl (w4.heap.size + 1) 0 rfl (row (fun _ => 0)) _ ?_ Try.underlying22 rfl (by rw [row_length]; exact info22) ?_; (exact Arr.range HHH.out))
              | (go_at_call 8; refine (sixth_any (fun _ => 0) _ HFG.out).mono ?_; rintro e w7 ⟨rfl, hb7⟩))
            go_ret
            exact ⟨ret_bool (by rw [verdict_zero]; rfl), hB.trans (hb7.mono hB.size)⟩

set_option maxHeartbeats 3200000 in
set_option maxRecDepth 100000 in
theorem law_empty (x : Addr) (cap0 : Nat) (w : World) : Calls Try.prog 4 #[.slice (some x) 0 cap0] w fun e w' => e = .returned (.bool true) ∧ Below w.heap.size w w' := by
  have hnil := fun (w : World) (a : Option Addr) (n c : Nat) => run_neq_slice_nil_any (P := Try.prog) w 30 3 a n c 0 0 Try.underlying30
  obtain ⟨i0, hi, hz0, hz1, hz2⟩ := info_parts info3
  go_enter Try.func4, Try.ntmps4
  go_wp2_with (first
    | (go_at_call 9; go_in)
    | (at_make; refine wpList_make_full _ rfl _ _ 30 rfl w.heap.size 3 i0 (.int .i64 0) 1 Try.underlying30 hi hz0 hz1 _ _ _ _ 0 rfl rfl rfl rfl ?b2 ?b3 (Nat.le_refl _) ?_))
  case b2 => omega
  case b3 => unfold maxLen; omega
  intro w1 hown0 hgrow0
  have hbel : Below w.heap.size w w1 := (Below.refl _ _).grown hgrow0 (Nat.le_refl _) (fun k h => by cases h)
  clear hown0 hgrow0
  go_wp2
  go_loop [4] (fun si => si = .int .i64 0) (fun _ => 0)
  case atStart => rfl
  case round =>
    subst hrel
    go_wp2_with fail
    refine (new_zero _).mono ?_
    rintro e w2 ⟨rfl, hP2, hb2, hz2'⟩
    have hbel2 : Below w.heap.size w w2 := hbel.trans (hb2.mono hbel.size)
    have hs2 : w1.heap.size + 1 < w2.heap.size := by omega
    clear hb2 hz2'
    go_wp2
    go_loop [7] (fun si => si = .int .i64 0) (fun _ => 0)
    case atStart => rfl
    case round =>
      subst hrel
      go_wp2_with fail
      refine (state_any (w1.heap.size + 1) _ _ _ _ hP2 hs2).mono ?_
      rintro e w4 ⟨rfl, hb4⟩
      have hbel4 : Below w.heap.size w w4 := hbel2.trans (hb4.mono hbel2.size)
      have hs4 : w.heap.size ≤ w4.heap.size := hbel4.size
      clear hP2 hb4 hbel2
      go_wp2_with (refine store_arr rfl (.tmp 8) (.tmp 57) rfl w4.heap.size (fun _ => 0) rfl rfl (there_new _ _ rfl _ rfl _) (fun k => World.frozen?_alloc_at _ _ _ _ rfl) ?_; intro w5 hA5 hB5 hz5 hc5; simp only [World.size_alloc] at hz5)
      have HHH : Hid (∀ i, i < 16 → (w5.alloc (.cells #[.int .i64 0, .int .i64 0, .int .i64 0, .int .i64 0, .int .i64 0, .int .i64 0, .int .i64 0, .int .i64 0, .int .i64 0, .int .i64 0, .int .i64 0, .int .i64 0, .int .i64 0, .int .i64 0, .int .i64 0, .int .i64 0] 22)).cell? ⟨w4.heap.size + 1, i, none⟩ = some (.int .i64 0)) := (arr_zero w5 _ hz5.symm).cell
      have HGG : Hid (∀ i, i < 16 → (w5.alloc (.cells #[.int .i64 0, .int .i64 0, .int .i64 0, .int .i64 0, .int .i64 0, .int .i64 0, .int .i64 0, .int .i64 0, .int .i64 0, .int .i64 0, .int .i64 0, .int .i64 0, .int .i64 0, .int .i64 0, .int .i64 0, .int .i64 0] 22)).cell? ⟨w4.heap.size, i, none⟩ = some (.int .i64 0)) := fun i hi => by
        rw [World.cell?_alloc_past _ _ _ (by omega)]; exact hA5.cell i hi
      have hB : Below w.heap.size w (w5.alloc (.cells #[.int .i64 0, .int .i64 0, .int .i64 0, .int .i64 0, .int .i64 0, .int .i64 0, .int .i64 0, .int .i64 0, .int .i64 0, .int .i64 0, .int .i64 0, .int .i64 0, .int .i64 0, .int .i64 0, .int .i64 0, .int .i64 0] 22)) := (hB5 _ _ (by omega) (hbel4.alloc (by omega) _)).alloc (by omega) _
      have HFG : Hid (∀ i : Nat, i < 16 → (fun _ => (0 : Int)) i ≤ 9223372036854775807) := fun _ _ => by simp
      clear hA5 hB5 hz5 hc5 hbel4
      go_loop [12] (fun sj => ∃ j : Nat, j ≤ 16 ∧ sj = .int .i64 j) (fun sj => 16 - (intOf sj).toNat)
      case atStart => exact ⟨0, by omega, rfl⟩
      case round =>
        obtain ⟨j, hj, rfl⟩ := hrel
        by_cases hlt : j < 16
        · go_wp2
          go_round
          case rel => exact ⟨j + 1, by omega, by go_num⟩
          case measure => simp [intOf]; omega
        · have ej : j = 16 := by omega
          subst ej
          go_wp2
          go_loopw [13] (fun si wx => ∃ m : Nat, m ≤ 16 ∧ si = .int .i64 m ∧ (∀ i, i < 16 → wx.cell? ⟨w4.heap.size, i, none⟩ = some (.int .i64 (0))) ∧ (∀ i, i < 16 → wx.cell? ⟨w4.heap.size + 1, i, none⟩ = some (.int .i64 (0))) ∧ Below w.heap.size w wx) (fun si _ => 16 - (intOf si).toNat)
          case atStart => exact ⟨0, by omega, rfl, HGG.out, HHH.out, hB⟩
          case round =>
            clear HGG HHH hB
            obtain ⟨m, hm, rfl, hG, hH, hB⟩ := hrel
            have HGG : Hid (∀ i, i < 16 → wr.cell? ⟨w4.heap.size, i, none⟩ = some (.int .i64 (0))) := hG
            have HHH : Hid (∀ i, i < 16 → wr.cell? ⟨w4.heap.size + 1, i, none⟩ = some (.int .i64 (0))) := hH
            clear hG hH
            by_cases hlt : m < 16
            · have h1 := HGG.out m hlt
              have h2 := HHH.out m hlt
              have b1' : (m : Int) < 16 := by omega
              have b0' : (0 : Int) ≤ (m : Int) := by omega
              go_wp2
              go_quiet (fail)
              go_wp2
              go_roundw
              case rel => exact ⟨m + 1, by omega, by go_num, HGG.out, HHH.out, below_draws hB _⟩
              case measure => simp [intOf]; omega
            · have em : m = 16 := by omega
              subst em
              go_wp2_with (first
                | (refine wpList_load_mid rfl 22 (.tmp 11) rfl (w4.heap.size + 1) 0 rfl (row (fun _ => 0)) _ ?_ Try.underlying22 rfl (by rw [row_length]; exact info22) ?_; (exact Arr.range HHH.out))
                | (go_at_call 8; refine (sixth_any (fun _ => 0) _ HFG.out).mono ?_; rintro e w7 ⟨rfl, hb7⟩))
              go_ret
              exact ⟨ret_bool (by rw [verdict_zero]; rfl), hB.trans (hb7.mono hB.size)⟩

theorem walk (a0 : Option Addr) (len0 cap0 : Nat) (z0 : List Int) (w : World) (w0 : IsRow .i64 w a0 len0 cap0 z0) :
    Calls Try.prog 4 #[.slice a0 len0 cap0] w fun e w' => e = .returned (.bool true) ∧ Below w.heap.size w w' := by
  rcases Nat.lt_or_ge 65536 len0 with h | h
  · exact law_long a0 len0 cap0 w h
  rcases w0 with ⟨rfl, rfl, rfl, _⟩ | ⟨x, rfl, hl, hm, hz, hcell, hwf⟩
  · exact law_nil w
  by_cases h0 : len0 = 0
  · subst h0; exact law_empty x cap0 w
  obtain ⟨b, off, rfl, hc⟩ := ints_at hcell (by omega)
  exact law_pos b off len0 cap0 (fun k => z0.getD k 0) w (by omega) h (World.block_lt_of_cell? w _ (hc 0 (by omega)))
    (fun k => by have := (range_i64 hwf k).2; simpa [List.getD] using this) (fun i hi => hc i (by omega))
end Go.Proofs.Qxb6601249a.fnInPlayAddScriptKeepsLastSixteen
