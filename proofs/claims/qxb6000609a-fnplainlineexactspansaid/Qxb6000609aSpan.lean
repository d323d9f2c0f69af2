import Derived.Test.Qxb6000609aSpan0
namespace Go.Proofs.Qxb6000609a.fnPlainLineExactSpan
open Go.RowKit

set_option maxHeartbeats 400000 in
theorem law_out (a0 : Option Addr) (len0 cap0 : Nat) (a1 : Int) (fl : Bool) (w : World) (h : 1048576 < len0 ∨ a1 < 0 ∨ (len0 : Int) < a1) :
    Calls Try.prog 3 #[.slice a0 len0 cap0, .int .i64 a1, .bool fl] w fun e w' => e = .returned (.bool true) ∧ Below w.heap.size w w' := by
  by_cases h1 : 1048576 < len0
  · go_enter Try.func3, Try.ntmps3
    go_wp2
    go_ret
    exact ⟨rfl, Below.refl _ _⟩
  have h1' : len0 ≤ 1048576 := by omega
  by_cases h2 : a1 < 0
  · go_enter Try.func3, Try.ntmps3
    go_wp2
    go_ret
    exact ⟨rfl, Below.refl _ _⟩
  have h3 : (len0 : Int) < a1 := by omega
  clear h
  go_enter Try.func3, Try.ntmps3
  go_wp2
  go_ret
  exact ⟨rfl, Below.refl _ _⟩

set_option maxHeartbeats 800000 in
theorem law_zero (a0 : Option Addr) (cap0 : Nat) (zs : List Int) (fl : Bool) (w : World) (h : IsRow .u8 w a0 0 cap0 zs) :
    Calls Try.prog 3 #[.slice a0 0 cap0, .int .i64 0, .bool fl] w fun e w' => e = .returned (.bool true) ∧ Below w.heap.size w w' := by
  go_enter Try.func3, Try.ntmps3
  go_wp2_with (first
    | (go_at_call 11; go_in)
    | (go_at_call 12; refine (clone_zero a0 cap0 zs _ h).mono ?_; rintro e w1 ⟨⟨a', rfl⟩, hb1⟩))
  refine (zz_plain_zero a' _ _).mono ?_
  rintro e w2 ⟨rfl, hb2⟩
  have hbel : Below w.heap.size w w2 := hb1.trans (hb2.mono hb1.size)
  clear hb1 hb2
  go_wp2
  go_loop [9] (fun si => si = .int .i64 0) (fun _ => 0)
  case atStart => rfl
  case round =>
    subst hrel
    go_wp2
    go_loop [10] (fun si => si = .int .i64 0) (fun _ => 0)
    case atStart => rfl
    case round =>
      subst hrel
      go_wp2
      go_ret
      exact ⟨rfl, hbel⟩

set_option maxHeartbeats 800000 in
theorem law_hash (b off len0 cap0 : Nat) (zs : List Int) (fl : Bool) (w : World) (hl : len0 ≤ 1048576) (hp : 0 < len0) (h : zs.getD 0 0 = 35)
    (hc : ∀ i, i < len0 → w.cell? ⟨b, off + i, none⟩ = some (.int .u8 (zs.getD i 0))) :
    Calls Try.prog 3 #[.slice (some ⟨b, off, none⟩) len0 cap0, .int .i64 0, .bool fl] w fun e w' => e = .returned (.bool true) ∧ Below w.heap.size w w' := by
  have h0 := hc 0 hp
  rw [h] at h0
  simp only [Nat.add_zero] at h0
  clear hc h
  go_enter Try.func3, Try.ntmps3
  go_wp2
  go_ret
  exact ⟨rfl, Below.refl _ _⟩

set_option maxHeartbeats 1600000 in
theorem law_in (b off len0 cap0 p : Nat) (zs : List Int) (fl : Bool) (w : World) (hl : len0 ≤ 1048576) (hp : 0 < len0) (hpl : p ≤ len0) (h : p = 0 → zs.getD 0 0 ≠ 35) (hb : b < w.heap.size)
    (hc : ∀ i, i < len0 → w.cell? ⟨b, off + i, none⟩ = some (.int .u8 (zs.getD i 0))) :
    Calls Try.prog 3 #[.slice (some ⟨b, off, none⟩) len0 cap0, .int .i64 p, .bool fl] w fun e w' => e = .returned (.bool true) ∧ Below w.heap.size w w' := by
  have H : Hid (p = 0 → zs.getD 0 0 ≠ 35) := h
  have HC : Hid (∀ i, i < len0 → w.cell? ⟨b, off + i, none⟩ = some (.int .u8 (zs.getD i 0))) := hc
  have hn3 : ¬ len0 < p := by omega
  by_cases hp0 : p = 0
  · have h0 := hc 0 hp
    obtain ⟨c, hc0⟩ : ∃ c, c = zs.getD 0 0 := ⟨_, rfl⟩
    rw [← hc0] at h0
    have hne : (c == 35) = false := by have := h hp0; simp; omega
    simp only [Nat.add_zero] at h0
    clear hc h hc0
    have hpe : ((p : Int) == 0) = true := by simpa using hp0
    clear hp0
    go_enter Try.func3, Try.ntmps3
    go_wp2_with (first
      | (go_at_call 11; go_in)
      | (go_at_call 12; refine (clone_hid b off len0 cap0 zs _ hl (fun _ => hb) HC.out).mono ?_; rintro e w1 ⟨rfl, hb1, hs1, HC1⟩))
    refine (zz_plain w.heap.size len0 p zs fl _ hl hpl H.out hs1 HC1.out).mono ?_
    rintro e w2 ⟨x, rfl, hS, hb2⟩
    obtain ⟨j, hR, hJ⟩ := hS
    have hp2 := hR.pe
    have hx2 := hR.ei
    have hn2 := hR.i_n
    have HR : Hid (Run zs len0 fl p x j) := hR
    have HJ : Hid (j < len0 → blank (zs.getD j 0) = false ∧ stop zs len0 fl j = true) := hJ
    have HCZ : Hid (∀ k, k < len0 → w2.cell? ⟨w.heap.size, k, none⟩ = some (.int .u8 (zs.getD k 0))) := fun k hk => (hb2.cell (by exact hs1)).trans (HC1.out k hk)
    have hbel : Below w.heap.size w w2 := hb1.trans (hb2.mono hb1.size)
    clear hR hJ hb1 hb2
    have m1 : ¬ x < p := by omega
    have m2 : ¬ len0 < x := by omega
    by_cases hpx : p < x
    · have hlast := HR.out.last hpx
      have hcl := HCZ.out (x - 1) (by omega)
      obtain ⟨d, hd⟩ : ∃ d, d = zs.getD (x - 1) 0 := ⟨_, rfl⟩
      rw [← hd] at hlast hcl
      clear hd
      go_wp2_with (go_at_call 14; refine (ylBlank_any _ _).mono ?_; rintro e w' ⟨rfl, rfl⟩)
      go_loop [9] (fun si => ∃ k : Nat, p ≤ k ∧ k ≤ x ∧ si = .int .i64 k) (fun si => x - (intOf si).toNat)
      case atStart => exact ⟨p, Nat.le_refl _, hp2, rfl⟩
      case round =>
        obtain ⟨k, hk1, hk2, rfl⟩ := hrel
        by_cases hlt : k < x
        · have hns := HR.out.go k hk1 (by omega)
          go_wp2_with (go_at_call 15; refine (ylStop_any w.heap.size len0 k zs fl _ hl (by omega) (fun e => H.out (by omega)) HCZ.out).mono ?_; rintro e w' ⟨rfl, rfl⟩)
          go_round
          case rel => exact ⟨k + 1, by omega, by omega, by go_num⟩
          case measure => simp [intOf]; omega
        · have hkx : k = x := by omega
          subst hkx
          go_wp2
          go_loop [10] (fun si => ∃ m : Nat, k ≤ m ∧ m ≤ j ∧ si = .int .i64 m) (fun si => j - (intOf si).toNat)
          case atStart => exact ⟨k, Nat.le_refl _, hx2, rfl⟩
          case round =>
            obtain ⟨m, hm1, hm2, rfl⟩ := hrel
            by_cases hmj : m < j
            · have hbm := HR.out.bl m hm1 hmj
              have hcm := HCZ.out m (by omega)
              obtain ⟨v, hv⟩ : ∃ v, v = zs.getD m 0 := ⟨_, rfl⟩
              rw [← hv] at hbm hcm
              clear hv
              go_wp2_with (go_at_call 14; refine (ylBlank_any _ _).mono ?_; rintro e w' ⟨rfl, rfl⟩)
              go_round
              case rel => exact ⟨m + 1, by omega, by omega, by go_num⟩
              case measure => simp [intOf]; omega
            · have hmj' : m = j := by omega
              subst hmj'
              by_cases hme : m < len0
              · have hbm := (HJ.out hme).1
                have hst := (HJ.out hme).2
                have hcm := HCZ.out m hme
                obtain ⟨v, hv⟩ : ∃ v, v = zs.getD m 0 := ⟨_, rfl⟩
                rw [← hv] at hbm hcm
                clear hv
                go_wp2_with (first
                  | (go_at_call 14; refine (ylBlank_any _ _).mono ?_; rintro e w' ⟨rfl, rfl⟩)
                  | (go_at_call 15; refine (ylStop_any w.heap.size len0 m zs fl _ hl hme (fun e => H.out (by omega)) HCZ.out).mono ?_; rintro e w' ⟨rfl, rfl⟩))
                go_ret
                exact ⟨rfl, hbel⟩
              · go_wp2
                go_ret
                exact ⟨rfl, hbel⟩
    · go_wp2
      go_loop [9] (fun si => ∃ k : Nat, p ≤ k ∧ k ≤ x ∧ si = .int .i64 k) (fun si => x - (intOf si).toNat)
      case atStart => exact ⟨p, Nat.le_refl _, hp2, rfl⟩
      case round =>
        obtain ⟨k, hk1, hk2, rfl⟩ := hrel
        by_cases hlt : k < x
        · have hns := HR.out.go k hk1 (by omega)
          go_wp2_with (go_at_call 15; refine (ylStop_any w.heap.size len0 k zs fl _ hl (by omega) (fun e => H.out (by omega)) HCZ.out).mono ?_; rintro e w' ⟨rfl, rfl⟩)
          go_round
          case rel => exact ⟨k + 1, by omega, by omega, by go_num⟩
          case measure => simp [intOf]; omega
        · have hkx : k = x := by omega
          subst hkx
          go_wp2
          go_loop [10] (fun si => ∃ m : Nat, k ≤ m ∧ m ≤ j ∧ si = .int .i64 m) (fun si => j - (intOf si).toNat)
          case atStart => exact ⟨k, Nat.le_refl _, hx2, rfl⟩
          case round =>
            obtain ⟨m, hm1, hm2, rfl⟩ := hrel
            by_cases hmj : m < j
            · have hbm := HR.out.bl m hm1 hmj
              have hcm := HCZ.out m (by omega)
              obtain ⟨v, hv⟩ : ∃ v, v = zs.getD m 0 := ⟨_, rfl⟩
              rw [← hv] at hbm hcm
              clear hv
              go_wp2_with (go_at_call 14; refine (ylBlank_any _ _).mono ?_; rintro e w' ⟨rfl, rfl⟩)
              go_round
              case rel => exact ⟨m + 1, by omega, by omega, by go_num⟩
              case measure => simp [intOf]; omega
            · have hmj' : m = j := by omega
              subst hmj'
              by_cases hme : m < len0
              · have hbm := (HJ.out hme).1
                have hst := (HJ.out hme).2
                have hcm := HCZ.out m hme
                obtain ⟨v, hv⟩ : ∃ v, v = zs.getD m 0 := ⟨_, rfl⟩
                rw [← hv] at hbm hcm
                clear hv
                go_wp2_with (first
                  | (go_at_call 14; refine (ylBlank_any _ _).mono ?_; rintro e w' ⟨rfl, rfl⟩)
                  | (go_at_call 15; refine (ylStop_any w.heap.size len0 m zs fl _ hl hme (fun e => H.out (by omega)) HCZ.out).mono ?_; rintro e w' ⟨rfl, rfl⟩))
                go_ret
                exact ⟨rfl, hbel⟩
              · go_wp2
                go_ret
                exact ⟨rfl, hbel⟩
  · have hne : ((p : Int) == 0) = false := by simpa using hp0
    clear hc h hp0
    go_enter Try.func3, Try.ntmps3
    go_wp2_with (first
      | (go_at_call 11; go_in)
      | (go_at_call 12; refine (clone_hid b off len0 cap0 zs _ hl (fun _ => hb) HC.out).mono ?_; rintro e w1 ⟨rfl, hb1, hs1, HC1⟩))
    refine (zz_plain w.heap.size len0 p zs fl _ hl hpl H.out hs1 HC1.out).mono ?_
    rintro e w2 ⟨x, rfl, hS, hb2⟩
    obtain ⟨j, hR, hJ⟩ := hS
    have hp2 := hR.pe
    have hx2 := hR.ei
    have hn2 := hR.i_n
    have HR : Hid (Run zs len0 fl p x j) := hR
    have HJ : Hid (j < len0 → blank (zs.getD j 0) = false ∧ stop zs len0 fl j = true) := hJ
    have HCZ : Hid (∀ k, k < len0 → w2.cell? ⟨w.heap.size, k, none⟩ = some (.int .u8 (zs.getD k 0))) := fun k hk => (hb2.cell (by exact hs1)).trans (HC1.out k hk)
    have hbel : Below w.heap.size w w2 := hb1.trans (hb2.mono hb1.size)
    clear hR hJ hb1 hb2
    have m1 : ¬ x < p := by omega
    have m2 : ¬ len0 < x := by omega
    by_cases hpx : p < x
    · have hlast := HR.out.last hpx
      have hcl := HCZ.out (x - 1) (by omega)
      obtain ⟨d, hd⟩ : ∃ d, d = zs.getD (x - 1) 0 := ⟨_, rfl⟩
      rw [← hd] at hlast hcl
      clear hd
      go_wp2_with (go_at_call 14; refine (ylBlank_any _ _).mono ?_; rintro e w' ⟨rfl, rfl⟩)
      go_loop [9] (fun si => ∃ k : Nat, p ≤ k ∧ k ≤ x ∧ si = .int .i64 k) (fun si => x - (intOf si).toNat)
      case atStart => exact ⟨p, Nat.le_refl _, hp2, rfl⟩
      case round =>
        obtain ⟨k, hk1, hk2, rfl⟩ := hrel
        by_cases hlt : k < x
        · have hns := HR.out.go k hk1 (by omega)
          go_wp2_with (go_at_call 15; refine (ylStop_any w.heap.size len0 k zs fl _ hl (by omega) (fun e => H.out (by omega)) HCZ.out).mono ?_; rintro e w' ⟨rfl, rfl⟩)
          go_round
          case rel => exact ⟨k + 1, by omega, by omega, by go_num⟩
          case measure => simp [intOf]; omega
        · have hkx : k = x := by omega
          subst hkx
          go_wp2
          go_loop [10] (fun si => ∃ m : Nat, k ≤ m ∧ m ≤ j ∧ si = .int .i64 m) (fun si => j - (intOf si).toNat)
          case atStart => exact ⟨k, Nat.le_refl _, hx2, rfl⟩
          case round =>
            obtain ⟨m, hm1, hm2, rfl⟩ := hrel
            by_cases hmj : m < j
            · have hbm := HR.out.bl m hm1 hmj
              have hcm := HCZ.out m (by omega)
              obtain ⟨v, hv⟩ : ∃ v, v = zs.getD m 0 := ⟨_, rfl⟩
              rw [← hv] at hbm hcm
              clear hv
              go_wp2_with (go_at_call 14; refine (ylBlank_any _ _).mono ?_; rintro e w' ⟨rfl, rfl⟩)
              go_round
              case rel => exact ⟨m + 1, by omega, by omega, by go_num⟩
              case measure => simp [intOf]; omega
            · have hmj' : m = j := by omega
              subst hmj'
              by_cases hme : m < len0
              · have hbm := (HJ.out hme).1
                have hst := (HJ.out hme).2
                have hcm := HCZ.out m hme
                obtain ⟨v, hv⟩ : ∃ v, v = zs.getD m 0 := ⟨_, rfl⟩
                rw [← hv] at hbm hcm
                clear hv
                go_wp2_with (first
                  | (go_at_call 14; refine (ylBlank_any _ _).mono ?_; rintro e w' ⟨rfl, rfl⟩)
                  | (go_at_call 15; refine (ylStop_any w.heap.size len0 m zs fl _ hl hme (fun e => H.out (by omega)) HCZ.out).mono ?_; rintro e w' ⟨rfl, rfl⟩))
                go_ret
                exact ⟨rfl, hbel⟩
              · go_wp2
                go_ret
                exact ⟨rfl, hbel⟩
    · go_wp2
      go_loop [9] (fun si => ∃ k : Nat, p ≤ k ∧ k ≤ x ∧ si = .int .i64 k) (fun si => x - (intOf si).toNat)
      case atStart => exact ⟨p, Nat.le_refl _, hp2, rfl⟩
      case round =>
        obtain ⟨k, hk1, hk2, rfl⟩ := hrel
        by_cases hlt : k < x
        · have hns := HR.out.go k hk1 (by omega)
          go_wp2_with (go_at_call 15; refine (ylStop_any w.heap.size len0 k zs fl _ hl (by omega) (fun e => H.out (by omega)) HCZ.out).mono ?_; rintro e w' ⟨rfl, rfl⟩)
          go_round
          case rel => exact ⟨k + 1, by omega, by omega, by go_num⟩
          case measure => simp [intOf]; omega
        · have hkx : k = x := by omega
          subst hkx
          go_wp2
          go_loop [10] (fun si => ∃ m : Nat, k ≤ m ∧ m ≤ j ∧ si = .int .i64 m) (fun si => j - (intOf si).toNat)
          case atStart => exact ⟨k, Nat.le_refl _, hx2, rfl⟩
          case round =>
            obtain ⟨m, hm1, hm2, rfl⟩ := hrel
            by_cases hmj : m < j
            · have hbm := HR.out.bl m hm1 hmj
              have hcm := HCZ.out m (by omega)
              obtain ⟨v, hv⟩ : ∃ v, v = zs.getD m 0 := ⟨_, rfl⟩
              rw [← hv] at hbm hcm
              clear hv
              go_wp2_with (go_at_call 14; refine (ylBlank_any _ _).mono ?_; rintro e w' ⟨rfl, rfl⟩)
              go_round
              case rel => exact ⟨m + 1, by omega, by omega, by go_num⟩
              case measure => simp [intOf]; omega
            · have hmj' : m = j := by omega
              subst hmj'
              by_cases hme : m < len0
              · have hbm := (HJ.out hme).1
                have hst := (HJ.out hme).2
                have hcm := HCZ.out m hme
                obtain ⟨v, hv⟩ : ∃ v, v = zs.getD m 0 := ⟨_, rfl⟩
                rw [← hv] at hbm hcm
                clear hv
                go_wp2_with (first
                  | (go_at_call 14; refine (ylBlank_any _ _).mono ?_; rintro e w' ⟨rfl, rfl⟩)
                  | (go_at_call 15; refine (ylStop_any w.heap.size len0 m zs fl _ hl hme (fun e => H.out (by omega)) HCZ.out).mono ?_; rintro e w' ⟨rfl, rfl⟩))
                go_ret
                exact ⟨rfl, hbel⟩
              · go_wp2
                go_ret
                exact ⟨rfl, hbel⟩

theorem walk (a0 : Option Addr) (len0 cap0 : Nat) (z0 : List Int) (a1 : Int) (a2 : Bool) (w : World) (w0 : IsRow .u8 w a0 len0 cap0 z0) (_w1 : (Lit.int .i64 a1).wf = true) :
    Calls Try.prog 3 #[.slice a0 len0 cap0, .int .i64 a1, .bool a2] w fun e w' => e = .returned (.bool true) ∧ Below w.heap.size w w' := by
  by_cases h : 1048576 < len0 ∨ a1 < 0 ∨ (len0 : Int) < a1
  · exact law_out a0 len0 cap0 a1 a2 w h
  by_cases hz : len0 = 0
  · subst hz
    obtain rfl : a1 = 0 := by omega
    exact law_zero a0 cap0 z0 a2 w w0
  obtain ⟨b, off, rfl, hb, hc⟩ := row_open w0 (by omega)
  obtain ⟨p, rfl⟩ : ∃ p : Nat, a1 = p := ⟨a1.toNat, by omega⟩
  by_cases hh : p = 0 ∧ z0.getD 0 0 = 35
  · obtain ⟨rfl, hh⟩ := hh
    exact law_hash b off len0 cap0 z0 a2 w (by omega) (by omega) hh hc
  · exact law_in b off len0 cap0 p z0 a2 w (by omega) (by omega) (by omega) (fun e h35 => hh ⟨e, h35⟩) hb hc
end Go.Proofs.Qxb6000609a.fnPlainLineExactSpan
