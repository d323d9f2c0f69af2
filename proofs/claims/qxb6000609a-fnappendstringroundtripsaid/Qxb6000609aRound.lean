import Derived.Test.Qxb6000609aRound0
import Derived.Deep.QuietTactic
import Derived.BigQuiet
namespace Go.Proofs.Qxb6000609a.fnAppendStringRoundTrip
open Go.RowKit

set_option maxRecDepth 100000 in
theorem law_long (s : ByteArray) (w : World) (h : 1048576 < s.size) :
    Calls Try.prog 8 #[.string s] w fun e w' => e = .returned (.bool true) ∧ Below w.heap.size w w' := by
  go_enter Try.func8, Try.ntmps8
  go_wp2
  go_ret
  exact ⟨rfl, Below.refl _ _⟩

def udig (c : Int) : Nat → Int
  | 0 => 0
  | 1 => 0
  | 2 => c / 16
  | _ => c % 16
def uval (c : Int) : Nat → Int
  | 0 => 0
  | 1 => 0
  | 2 => 0
  | 3 => c / 16
  | _ => c
theorem udig_bd (c : Int) (t : Nat) (h0 : 0 ≤ c) (h1 : c < 32) : 0 ≤ udig c t ∧ udig c t < 16 := by
  match t with
  | 0 => simp [udig]
  | 1 => simp [udig]
  | 2 => simp only [udig]; omega
  | t + 3 => simp only [udig]; omega
theorem uval_bd (c : Int) (t : Nat) (h0 : 0 ≤ c) (h1 : c < 32) : 0 ≤ uval c t ∧ uval c t ≤ 31 := by
  match t with
  | 0 => simp [uval]
  | 1 => simp [uval]
  | 2 => simp [uval]
  | 3 => simp only [uval]; omega
  | t + 4 => simp only [uval]; omega
theorem uval_step (c : Int) (t : Nat) (h : t < 4) : uval c t * 16 + udig c t = uval c (t + 1) := by
  match t, h with
  | 0, _ => simp [uval, udig]
  | 1, _ => simp [uval, udig]
  | 2, _ => simp [uval, udig]
  | 3, _ => simp only [uval, udig]; omega

set_option maxRecDepth 100000 in
set_option maxHeartbeats 6400000 in
theorem law_in (s : ByteArray) (w : World) (h : s.size ≤ 1048576) :
    Calls Try.prog 8 #[.string s] w fun e w' => e = .returned (.bool true) ∧ Below w.heap.size w w' := by
  obtain ⟨i0, hi, hz0, hz1, hz2⟩ := info_parts info5
  go_enter Try.func8, Try.ntmps8
  go_wp2_with (first
    | (go_at_call 22; go_in)
    | (go_at_call 23; refine (zzAppend_form s _ h).mono ?_; rintro e w1 ⟨g, N, cap, rfl, hg1, hg2, hN2, hN, hcap, HN, HC, hb1⟩; have hc0 := HC.out 0 (by omega); rw [jstr_first] at hc0; have hcl := HC.out (N - 1) (by omega); rw [show N - 1 = (enc (bs s)).length + 1 from by rw [HN.out]; omega, jstr_last, show (enc (bs s)).length + 1 = N - 1 from by rw [HN.out]; omega] at hcl)
    | (at_make; refine wpList_make_own _ rfl _ _ 22 rfl w1.heap.size 5 i0 (.int .u8 0) 1 Try.underlying22 hi hz0 hz1 _ _ _ s.size rfl rfl (by omega) ?b2 ?b3 (Nat.le_refl _) ?_))
  case b2 => rw [hz2]; omega
  case b3 => unfold maxLen; omega
  intro w2 hown2 hgrow2
  have hbd : Buf w1.heap.size (.slice (some ⟨w1.heap.size, 0, none⟩) 0 s.size) [] w1 w2 := ⟨hown2, (Below.refl _ _).grown hgrow2 (Nat.le_refl _) (fun k h => by cases h), hgrow2.size⟩
  clear hown2 hgrow2 hc0 hcl
  go_wp2
  go_loopw [5, 6] (fun v si wr => ∃ (j i : Nat), j ≤ s.size ∧ si = .int .i64 i ∧ i + 1 ≤ N ∧ Hid (i = (enc ((bs s).take j)).length + 1) ∧ Buf w1.heap.size v ((bs s).take j) w1 wr)
    (fun _ si _ => N - (intOf si).toNat)
  case atStart => exact ⟨0, 1, Nat.zero_le _, rfl, by omega, rfl, hbd⟩
  case round =>
    obtain ⟨j, i, hj, rfl, hiN, HI, hb⟩ := hrel
    by_cases hlt : i + 1 < N
    · have hjs : j < s.size := by
        rcases Nat.lt_or_ge j s.size with h1 | h1
        · exact h1
        · have h2 := HI.out
          have h3 := HN.out
          rw [List.take_of_length_le (by rw [bs_length]; omega)] at h2
          omega
      obtain ⟨c, hc⟩ : ∃ c, c = (bs s).getD j 0 := ⟨_, rfl⟩
      have HC1 : Hid (c = (bs s).getD j 0) := hc
      have hjl : j < (bs s).length := by rw [bs_length]; exact hjs
      have hfit := jstr_fits (bs s) j hjl
      have hat : ∀ t, t < (enc1 c).length → wr.cell? ⟨g, i + t, none⟩ = some (.int .u8 ((enc1 c).getD t 0)) := by
        intro t ht
        have h1 := (hb.2.1.cell (p := ⟨g, i + t, none⟩) (by exact hg2)).trans (HC.out (i + t) (by have := HI.out; have := HN.out; rw [hc] at ht; omega))
        rw [h1, HI.out, jstr_at (bs s) j t hjl (by rw [← hc]; exact ht), hc]
      have hend : ∀ L, (enc1 c).length = L → i + L + 1 ≤ N ∧ i + L = (enc ((bs s).take (j + 1))).length + 1 := by
        intro L hL
        rw [enc_take_succ (bs s) j hjl, List.length_append, ← hc, hL]
        rw [← hc, hL] at hfit
        have := HI.out
        have := HN.out
        omega
      have hsn := take_snoc (bs s) j hjl
      rw [← hc] at hsn
      have HSN : Hid ((bs s).take (j + 1) = (bs s).take j ++ [c]) := hsn
      have hb8 : 0 ≤ c ∧ c ≤ 255 := by rw [hc, bs_get s j hjs]; have := s[j].toNat_lt; omega
      have hlt9 : ((bs s).take j).length ≤ 1048576 := by rw [List.length_take]; omega
      clear hc hfit hsn
      obtain ⟨hb80, hb81⟩ := hb8
      by_cases hm : ¬ must c = true
      · have e1 : enc1 c = [c] := by unfold enc1; rw [if_neg hm]
        rw [e1] at hat hend
        have hA := hat 0 (by simp)
        simp only [Nat.add_zero, List.getD_cons_zero] at hA
        obtain ⟨hE1, hE2⟩ := hend 1 rfl
        have HE2 : Hid (i + 1 = (enc ((bs s).take (j + 1))).length + 1) := hE2
        have hm' : ¬ (c < 32 ∨ c = 34 ∨ c = 92) := by simpa [must] using hm
        have n1 : ¬ c < 32 := by omega
        have n2 : (c == 34) = false := by simp; omega
        have n3 : (c == 92) = false := by simp; omega
        have n4 : (c != 92) = true := by simp; omega
        clear hat hend hE2 hm' hm e1
        go_wp2_with (at_builtin; refine buf_lit [c] rfl (.tmp 58) (.tmp 60) rfl w1.heap.size _ _ w1 _ (hb.alloc _) rfl wr.heap.size (heap_alloc_new wr _) rfl ?_ ?_; (simp only [List.length_singleton]; omega); intro v3 w3 hb3)
        go_roundw
        case rel => exact ⟨j + 1, i + 1, by omega, by go_num, by omega, HE2, buf_eq hb3 HSN.out⟩
        case measure => simp [intOf]; omega
      replace hm : must c = true := by simpa using hm
      by_cases hc34 : c = 34
      · subst hc34
        have hA := hat 0 (by decide)
        have hB := hat 1 (by decide)
        rw [show (enc1 34).getD 0 0 = 92 from rfl] at hA
        rw [show (enc1 34).getD 1 0 = 34 from rfl] at hB
        simp only [Nat.add_zero] at hA
        obtain ⟨hE1, hE2⟩ := hend 2 rfl
        have HE2 : Hid (i + 2 = (enc ((bs s).take (j + 1))).length + 1) := hE2
        clear hat hend hE2 hm
        go_wp2_with (at_builtin; refine buf_lit [34] rfl (.tmp 78) (.tmp 80) rfl w1.heap.size _ _ w1 _ (hb.alloc _) rfl wr.heap.size (heap_alloc_new wr _) rfl ?_ ?_; (simp only [List.length_singleton]; omega); intro v3 w3 hb3)
        go_roundw
        case rel => exact ⟨j + 1, i + 2, by omega, by go_num, by omega, HE2, buf_eq hb3 HSN.out⟩
        case measure => simp [intOf]; omega
      by_cases hc92 : c = 92
      · subst hc92
        have hA := hat 0 (by decide)
        have hB := hat 1 (by decide)
        rw [show (enc1 92).getD 0 0 = 92 from rfl] at hA
        rw [show (enc1 92).getD 1 0 = 92 from rfl] at hB
        simp only [Nat.add_zero] at hA
        obtain ⟨hE1, hE2⟩ := hend 2 rfl
        have HE2 : Hid (i + 2 = (enc ((bs s).take (j + 1))).length + 1) := hE2
        clear hat hend hE2 hm
        go_wp2_with (at_builtin; refine buf_lit [92] rfl (.tmp 78) (.tmp 80) rfl w1.heap.size _ _ w1 _ (hb.alloc _) rfl wr.heap.size (heap_alloc_new wr _) rfl ?_ ?_; (simp only [List.length_singleton]; omega); intro v3 w3 hb3)
        go_roundw
        case rel => exact ⟨j + 1, i + 2, by omega, by go_num, by omega, HE2, buf_eq hb3 HSN.out⟩
        case measure => simp [intOf]; omega
      by_cases hc8 : c = 8
      · subst hc8
        have hA := hat 0 (by decide)
        have hB := hat 1 (by decide)
        rw [show (enc1 8).getD 0 0 = 92 from rfl] at hA
        rw [show (enc1 8).getD 1 0 = 98 from rfl] at hB
        simp only [Nat.add_zero] at hA
        obtain ⟨hE1, hE2⟩ := hend 2 rfl
        have HE2 : Hid (i + 2 = (enc ((bs s).take (j + 1))).length + 1) := hE2
        clear hat hend hE2 hm
        go_wp2_with (at_builtin; refine buf_lit [8] rfl (.tmp 86) (.tmp 87) rfl w1.heap.size _ _ w1 _ (hb.alloc _) rfl wr.heap.size (heap_alloc_new wr _) rfl ?_ ?_; (simp only [List.length_singleton]; omega); intro v3 w3 hb3)
        go_roundw
        case rel => exact ⟨j + 1, i + 2, by omega, by go_num, by omega, HE2, buf_eq hb3 HSN.out⟩
        case measure => simp [intOf]; omega
      by_cases hc12 : c = 12
      · subst hc12
        have hA := hat 0 (by decide)
        have hB := hat 1 (by decide)
        rw [show (enc1 12).getD 0 0 = 92 from rfl] at hA
        rw [show (enc1 12).getD 1 0 = 102 from rfl] at hB
        simp only [Nat.add_zero] at hA
        obtain ⟨hE1, hE2⟩ := hend 2 rfl
        have HE2 : Hid (i + 2 = (enc ((bs s).take (j + 1))).length + 1) := hE2
        clear hat hend hE2 hm
        go_wp2_with (at_builtin; refine buf_lit [12] rfl (.tmp 93) (.tmp 94) rfl w1.heap.size _ _ w1 _ (hb.alloc _) rfl wr.heap.size (heap_alloc_new wr _) rfl ?_ ?_; (simp only [List.length_singleton]; omega); intro v3 w3 hb3)
        go_roundw
        case rel => exact ⟨j + 1, i + 2, by omega, by go_num, by omega, HE2, buf_eq hb3 HSN.out⟩
        case measure => simp [intOf]; omega
      by_cases hc10 : c = 10
      · subst hc10
        have hA := hat 0 (by decide)
        have hB := hat 1 (by decide)
        rw [show (enc1 10).getD 0 0 = 92 from rfl] at hA
        rw [show (enc1 10).getD 1 0 = 110 from rfl] at hB
        simp only [Nat.add_zero] at hA
        obtain ⟨hE1, hE2⟩ := hend 2 rfl
        have HE2 : Hid (i + 2 = (enc ((bs s).take (j + 1))).length + 1) := hE2
        clear hat hend hE2 hm
        go_wp2_with (at_builtin; refine buf_lit [10] rfl (.tmp 100) (.tmp 101) rfl w1.heap.size _ _ w1 _ (hb.alloc _) rfl wr.heap.size (heap_alloc_new wr _) rfl ?_ ?_; (simp only [List.length_singleton]; omega); intro v3 w3 hb3)
        go_roundw
        case rel => exact ⟨j + 1, i + 2, by omega, by go_num, by omega, HE2, buf_eq hb3 HSN.out⟩
        case measure => simp [intOf]; omega
      by_cases hc13 : c = 13
      · subst hc13
        have hA := hat 0 (by decide)
        have hB := hat 1 (by decide)
        rw [show (enc1 13).getD 0 0 = 92 from rfl] at hA
        rw [show (enc1 13).getD 1 0 = 114 from rfl] at hB
        simp only [Nat.add_zero] at hA
        obtain ⟨hE1, hE2⟩ := hend 2 rfl
        have HE2 : Hid (i + 2 = (enc ((bs s).take (j + 1))).length + 1) := hE2
        clear hat hend hE2 hm
        go_wp2_with (at_builtin; refine buf_lit [13] rfl (.tmp 107) (.tmp 108) rfl w1.heap.size _ _ w1 _ (hb.alloc _) rfl wr.heap.size (heap_alloc_new wr _) rfl ?_ ?_; (simp only [List.length_singleton]; omega); intro v3 w3 hb3)
        go_roundw
        case rel => exact ⟨j + 1, i + 2, by omega, by go_num, by omega, HE2, buf_eq hb3 HSN.out⟩
        case measure => simp [intOf]; omega
      by_cases hc9 : c = 9
      · subst hc9
        have hA := hat 0 (by decide)
        have hB := hat 1 (by decide)
        rw [show (enc1 9).getD 0 0 = 92 from rfl] at hA
        rw [show (enc1 9).getD 1 0 = 116 from rfl] at hB
        simp only [Nat.add_zero] at hA
        obtain ⟨hE1, hE2⟩ := hend 2 rfl
        have HE2 : Hid (i + 2 = (enc ((bs s).take (j + 1))).length + 1) := hE2
        clear hat hend hE2 hm
        go_wp2_with (at_builtin; refine buf_lit [9] rfl (.tmp 114) (.tmp 115) rfl w1.heap.size _ _ w1 _ (hb.alloc _) rfl wr.heap.size (heap_alloc_new wr _) rfl ?_ ?_; (simp only [List.length_singleton]; omega); intro v3 w3 hb3)
        go_roundw
        case rel => exact ⟨j + 1, i + 2, by omega, by go_num, by omega, HE2, buf_eq hb3 HSN.out⟩
        case measure => simp [intOf]; omega
      have h32 : c < 32 := by have := of_decide_eq_true hm; omega
      have e1 : enc1 c = [92, 117, 48, 48, hexD (c / 16), hexD (c % 16)] := by
        unfold enc1; rw [if_pos hm]; unfold esc1
        rw [if_neg (by omega), if_neg hc8, if_neg hc12, if_neg hc10, if_neg hc13, if_neg hc9]
      rw [e1] at hat hend
      have hA := hat 0 (by simp)
      have hB := hat 1 (by simp)
      simp only [Nat.add_zero, List.getD_cons_zero, List.getD_cons_succ] at hA hB
      have HD : Hid (∀ t, t < 4 → wr.cell? ⟨g, i + 2 + t, none⟩ = some (.int .u8 (hexD (udig c t)))) := by
        intro t ht
        have := hat (2 + t) (by simp; omega)
        rw [← Nat.add_assoc] at this
        rw [this]
        match t, ht with
        | 0, _ => rfl
        | 1, _ => rfl
        | 2, _ => rfl
        | 3, _ => rfl
      obtain ⟨hE1, hE2⟩ := hend 6 rfl
      have HE2 : Hid (i + 6 = (enc ((bs s).take (j + 1))).length + 1) := hE2
      clear hat hend hE2 hm e1 hc34 hc92 hc8 hc9 hc10 hc12 hc13
      have f1 : (i : Int) < (N : Int) - 1 := by omega
      have f2 : ¬ (N : Int) - 1 ≤ (i : Int) + 1 := by omega
      have f3 : ¬ (N : Int) - 2 < (i : Int) + 5 := by omega
      go_wp2
      go_loop [9, 10, 11] (fun sv sk _ => ∃ (t : Nat) (uv : Int), t ≤ 4 ∧ sk = .int .i64 ((i + 2 + t : Nat) : Int) ∧ sv = .int .i64 uv ∧ Hid (uv = uval c t) ∧ 0 ≤ uv ∧ uv ≤ 31) (fun _ sk _ => i + 6 - (intOf sk).toNat)
      case atStart => exact ⟨0, 0, by omega, by go_num, rfl, rfl, by omega, by omega⟩
      case round =>
        obtain ⟨t, uv, ht, rfl, rfl, HU, hu0, hu1⟩ := hrel
        by_cases h4 : t < 4
        · have hck := HD.out t h4
          have hdb := udig_bd c t (by omega) h32
          have hst := uval_step c t h4
          have hub := uval_bd c (t + 1) (by omega) h32
          obtain ⟨d, hd⟩ : ∃ d, d = udig c t := ⟨_, rfl⟩
          rw [← hd] at hck hdb hst
          rw [← HU.out] at hst
          rw [← hst] at hub
          obtain ⟨hd0, hd1⟩ := hdb
          obtain ⟨hub0, hub1⟩ := hub
          have HST : Hid (uv * 16 + d = uval c (t + 1)) := hst
          clear hd hst
          go_wp2_with (go_at_call 24; refine (hexVal_any d hd0 hd1 _).mono ?_; rintro e w' ⟨rfl, rfl⟩)
          go_round
          case rel => exact ⟨t + 1, _, by omega, by go_num, rfl, HST, by omega, by omega⟩
          case measure => simp [intOf]; omega
        · have e4 : t = 4 := by omega
          subst e4
          have e5 : c = uv := HU.out.symm
          subst e5
          go_wp2_with (at_builtin; refine buf_lit [c] rfl (.tmp 147) (.tmp 150) rfl w1.heap.size _ _ w1 _ (hb.alloc _) rfl wr.heap.size (heap_alloc_new wr _) rfl ?_ ?_; (simp only [List.length_singleton]; omega); intro v3 w3 hb3)
          go_roundw
          case rel => exact ⟨j + 1, i + 6, by omega, by go_num, by omega, HE2, buf_eq hb3 HSN.out⟩
          case measure => simp [intOf]; omega
    · have hjs : j = s.size := by
        have h1 := HI.out
        have h2 := HN.out
        have := enc_end (bs s) j (by rw [bs_length]; exact hj) (by omega)
        rwa [bs_length] at this
      have htk : (bs s).take j = bs s := List.take_of_length_le (by rw [bs_length]; omega)
      rw [htk] at hb
      obtain ⟨a, capd, hv, hcd, hp⟩ := hb.form
      rw [bs_length] at hv hcd hp
      subst hv
      clear HI hjs htk
      by_cases hz : 0 < s.size
      · obtain ⟨gd, rfl, hgd1, hgd2, hcell⟩ := hp hz
        have HCD : Hid (∀ k, k < s.size → wr.cell? ⟨gd, k, none⟩ = some (.int .u8 ((bs s).getD k 0))) := hcell
        have hbel : Below w.heap.size w wr := hb1.trans (hb.2.1.mono hb1.size)
        clear hp hcell hb hb1 hbd
        go_wp2
        go_loopw [12] (fun si wx => ∃ (k q : Nat), k ≤ s.size ∧ si = .int .i64 k ∧ wx = wr.drewN q) (fun si _ => s.size - (intOf si).toNat)
        case atStart => exact ⟨0, 0, Nat.zero_le _, rfl, rfl⟩
        case round =>
          obtain ⟨k, q, hk, rfl, rfl⟩ := hrel
          by_cases hks : k < s.size
          · have hck := HCD.out k hks
            rw [bs_get s k hks] at hck
            have hki : (k : Int) < (s.size : Int) := by omega
            go_wp2
            go_quiet (fail)
            go_wp2
            go_roundw
            case rel => exact ⟨k + 1, _, by omega, by go_num, rfl⟩
            case measure => simp [intOf]; omega
          · go_wp2
            go_ret
            exact ⟨rfl, Below.trans hbel ⟨rfl, rfl, rfl, Nat.le_refl _, fun _ _ => rfl⟩⟩
      · have hbel : Below w.heap.size w wr := hb1.trans (hb.2.1.mono hb1.size)
        have hz' : s.size = 0 := by omega
        clear hp hb hb1 hbd
        go_wp2
        go_loopw [12] (fun si wx => si = .int .i64 0 ∧ wx = wr) (fun _ _ => 0)
        case atStart => exact ⟨rfl, rfl⟩
        case round =>
          obtain ⟨rfl, rfl⟩ := hrel
          go_wp2
          go_ret
          exact ⟨rfl, hbel⟩

theorem walk (a0 : ByteArray) (_w0 : a0.size ≤ maxLen) (w : World) :
    Calls Try.prog 8 #[.string a0] w fun e w' => e = .returned (.bool true) ∧ Below w.heap.size w w' := by
  rcases Nat.lt_or_ge 1048576 a0.size with h | h
  · exact law_long a0 w h
  · exact law_in a0 w h
end Go.Proofs.Qxb6000609a.fnAppendStringRoundTrip
