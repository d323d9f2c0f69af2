import Derived.Test.Qxb6000609aSkipZZ
namespace Go.Proofs.Qxb6000609a.fnSkipSpaceExact
open Go.RowKit

theorem ss_any (c : Int) (w : World) : Calls Try.prog 20 #[.int .u8 c] w fun e w' => e = .returned (.bool (isSp c)) ∧ w = w' := by
  by_cases h1 : c = 32
  · subst h1; go_enter Try.func20, Try.ntmps20; go_wp2; go_ret; exact ⟨rfl, rfl⟩
  by_cases h2 : c = 9
  · subst h2; go_enter Try.func20, Try.ntmps20; go_wp2; go_ret; exact ⟨rfl, rfl⟩
  by_cases h3 : c = 13
  · subst h3; go_enter Try.func20, Try.ntmps20; go_wp2; go_ret; exact ⟨rfl, rfl⟩
  have e1 : (c == 32) = false := by simpa using h1
  have e2 : (c == 9) = false := by simpa using h2
  have e3 : (c == 13) = false := by simpa using h3
  have H : Hid (isSp c = (c == 10)) := by
    show isSp c = (c == 10)
    unfold isSp; rw [Bool.eq_iff_iff]; simp [h1, h2, h3]
  clear h1 h2 h3
  go_enter Try.func20, Try.ntmps20
  go_wp2
  go_ret
  exact ⟨by rw [H.out]; rfl, rfl⟩

/-- The law, whatever the bytes: the argument is too long, or the position negative. -/
theorem law_out (a0 : Option Addr) (len0 cap0 : Nat) (a1 a2 a3 : Int) (w : World) (h : 1048576 < len0 ∨ a1 < 0) :
    Calls Try.prog 6 #[.slice a0 len0 cap0, .int .i64 a1, .int .i64 a2, .int .i64 a3] w fun e w' => e = .returned (.bool true) ∧ Below w.heap.size w w' := by
  by_cases h1 : 1048576 < len0
  · go_enter Try.func6, Try.ntmps6
    go_wp2
    go_ret
    exact ⟨rfl, Below.refl _ _⟩
  · have h2 : a1 < 0 := by omega
    clear h
    have h1' : len0 ≤ 1048576 := by omega
    go_enter Try.func6, Try.ntmps6
    go_wp2
    go_ret
    exact ⟨rfl, Below.refl _ _⟩

set_option maxHeartbeats 800000 in
/-- No element. -/
theorem law_zero (a0 : Option Addr) (cap0 : Nat) (zs : List Int) (a1 a2 a3 : Int) (w : World) (h : IsRow .u8 w a0 0 cap0 zs) (h1 : 0 ≤ a1) :
    Calls Try.prog 6 #[.slice a0 0 cap0, .int .i64 a1, .int .i64 a2, .int .i64 a3] w fun e w' => e = .returned (.bool true) ∧ Below w.heap.size w w' := by
  go_enter Try.func6, Try.ntmps6
  go_wp2_with (first
    | (go_at_call 18; go_in)
    | (go_at_call 12; refine (clone_zero a0 cap0 zs _ h).mono ?_; rintro e w1 ⟨⟨a', rfl⟩, hb1⟩)
    | (go_at_call 19; refine (zz_far 0 _ a1 a2 a3 _ (by omega)).mono ?_; rintro e w2 ⟨rfl, hb2⟩))
  go_ret
  exact ⟨rfl, hb1.trans (hb2.mono hb1.size)⟩

set_option maxHeartbeats 800000 in
/-- The position lies at or behind the end. -/
theorem law_far (a0 : Option Addr) (len0 cap0 : Nat) (zs : List Int) (a1 a2 a3 : Int) (w : World) (h : IsRow .u8 w a0 len0 cap0 zs) (hp : 0 < len0) (hl : len0 ≤ 1048576) (h1 : (len0 : Int) ≤ a1) :
    Calls Try.prog 6 #[.slice a0 len0 cap0, .int .i64 a1, .int .i64 a2, .int .i64 a3] w fun e w' => e = .returned (.bool true) ∧ Below w.heap.size w w' := by
  go_enter Try.func6, Try.ntmps6
  go_wp2_with (first
    | (go_at_call 18; go_in)
    | (go_at_call 12; refine (clone_pos a0 len0 cap0 zs _ h hp hl).mono ?_; rintro e w1 ⟨rfl, hb1, _, _⟩)
    | (go_at_call 19; refine (zz_far len0 _ a1 a2 a3 _ (by omega)).mono ?_; rintro e w2 ⟨rfl, hb2⟩))
  go_ret
  exact ⟨rfl, hb1.trans (hb2.mono hb1.size)⟩

theorem zz_near' (g n p : Nat) (zs : List Int) (line ls : Int) (w : World) (hn : n ≤ 1048576) (hp : p ≤ n) (hg : g < w.heap.size) (hl : wrap64 line = line)
    (hz : ∀ i, i < n → w.cell? ⟨g, i, none⟩ = some (.int .u8 (zs.getD i 0))) :
    Calls Try.prog 19 #[.slice (some ⟨g, 0, none⟩) n n, .int .i64 p, .int .i64 line, .int .i64 ls] w fun e w' =>
      ∃ (q d : Nat) (nl ns : Int), q ≤ n ∧ p ≤ q ∧ ¬ q < p ∧ ¬ n < q ∧ Hid (q = p + d) ∧ Hid (∀ i, i < d → isSp (zs.getD (p + i) 0) = true) ∧ Hid (q < n → isSp (zs.getD q 0) = false) ∧ Hid (nl = wrap64 (line + nls zs p d)) ∧ Hid (ns = lst zs p ls d) ∧
      e = .returned (.tuple #[.int .i64 q, .int .i64 nl, .int .i64 ns]) ∧ Below w.heap.size w w' := by
  refine (zz_near g n p zs line ls w hn hp hg hl hz).mono ?_
  rintro e w' ⟨d, h1, h2, h3, rfl, h5⟩
  exact ⟨p + d, d, _, _, h1, by omega, by omega, by omega, rfl, h2, h3, rfl, rfl, rfl, h5⟩

theorem ss_true {c : Int} (h : isSp c = true) (w : World) : Calls Try.prog 20 #[.int .u8 c] w fun e w' => e = .returned (.bool true) ∧ w = w' := by
  have := ss_any c w; rwa [h] at this
theorem ss_false {c : Int} (h : isSp c = false) (w : World) : Calls Try.prog 20 #[.int .u8 c] w fun e w' => e = .returned (.bool false) ∧ w = w' := by
  have := ss_any c w; rwa [h] at this

/-- What the backward count knows when k bytes are left. -/
structure Back (zs : List Int) (p d : Nat) (ls : Int) (k c : Nat) (last : Int) : Prop where
  le : k ≤ d
  sum : c + nls zs p k = nls zs p d
  cle : c + k ≤ d
  zero : c = 0 → last = -1 ∧ lst zs p ls d = lst zs p ls k
  pos : 0 < c → 0 ≤ last ∧ lst zs p ls d = last + 1
  lo : -1 ≤ last
  hi : last ≤ p + d

theorem back_hit0 {zs : List Int} {p d : Nat} {ls : Int} {k c : Nat} {last : Int} (h : Back zs p d ls (k + 1) c last) (hc : zs.getD (p + k) 0 = 10) (hl : last < 0) : Back zs p d ls k (c + 1) ((p + k : Nat) : Int) := by
  obtain ⟨h1, h2, h3, h4, h5, h6, h7⟩ := h
  have hz : c = 0 := by rcases Nat.eq_zero_or_pos c with h | h; · exact h
                        · have := (h5 h).1; omega
  have e := (h4 hz).2
  have n1 : nls zs p (k + 1) = nls zs p k + 1 := by simp only [nls, hc, if_true]
  have l1 : lst zs p ls (k + 1) = ((p + k + 1 : Nat) : Int) := by simp only [lst, hc, if_true]
  exact ⟨by omega, by omega, by omega, fun h => by omega, fun _ => ⟨by omega, by omega⟩, by omega, by omega⟩

theorem back_hit1 {zs : List Int} {p d : Nat} {ls : Int} {k c : Nat} {last : Int} (h : Back zs p d ls (k + 1) c last) (hc : zs.getD (p + k) 0 = 10) (hl : 0 ≤ last) : Back zs p d ls k (c + 1) last := by
  obtain ⟨h1, h2, h3, h4, h5, h6, h7⟩ := h
  have hz : 0 < c := by rcases Nat.eq_zero_or_pos c with h | h; · have := (h4 h).1; omega
                        · exact h
  have n1 : nls zs p (k + 1) = nls zs p k + 1 := by simp only [nls, hc, if_true]
  exact ⟨by omega, by omega, by omega, fun h => by omega, fun _ => h5 hz, by omega, by omega⟩

theorem back_miss {zs : List Int} {p d : Nat} {ls : Int} {k c : Nat} {last : Int} (h : Back zs p d ls (k + 1) c last) (hc : zs.getD (p + k) 0 ≠ 10) : Back zs p d ls k c last := by
  obtain ⟨h1, h2, h3, h4, h5, h6, h7⟩ := h
  have n1 : nls zs p (k + 1) = nls zs p k := by simp only [nls, if_neg hc]; rfl
  have l1 : lst zs p ls (k + 1) = lst zs p ls k := by simp only [lst, if_neg hc]
  exact ⟨by omega, by omega, by omega, fun h => ⟨(h4 h).1, by rw [(h4 h).2, l1]⟩, h5, by omega, by omega⟩

set_option maxHeartbeats 1600000 in
/-- The position lies inside the text. -/
theorem law_near (a0 : Option Addr) (len0 cap0 : Nat) (zs : List Int) (p : Nat) (a2 a3 : Int) (w : World) (h : IsRow .u8 w a0 len0 cap0 zs) (hl : len0 ≤ 1048576) (h1 : p < len0) (hw2 : wrap64 a2 = a2) :
    Calls Try.prog 6 #[.slice a0 len0 cap0, .int .i64 p, .int .i64 a2, .int .i64 a3] w fun e w' => e = .returned (.bool true) ∧ Below w.heap.size w w' := by
  have HW : Hid (wrap64 a2 = a2) := hw2
  clear hw2
  have hp : 0 < len0 := by omega
  have hn3 : ¬ len0 ≤ p := by omega
  go_enter Try.func6, Try.ntmps6
  go_wp2_with (first
    | (go_at_call 18; go_in)
    | (go_at_call 12; refine (clone_pos a0 len0 cap0 zs _ h hp hl).mono ?_; rintro e w1 ⟨rfl, hb1, hs1, hc1⟩)
    | (go_at_call 19; refine (zz_near' w.heap.size len0 p zs a2 a3 _ hl (by omega) hs1 HW.out hc1).mono ?_; rintro e w2 ⟨q, d, nl, ns, hq, hpq, hn1, hn2, HQ, HSP, HN, HNL, HNS, rfl, hb2⟩))
  have hcz : ∀ i, i < len0 → w2.cell? ⟨w.heap.size, i, none⟩ = some (.int .u8 (zs.getD i 0)) := fun i hi => (hb2.cell (by exact hs1)).trans (hc1 i hi)
  have hbel : Below w.heap.size w w2 := hb1.trans (hb2.mono hb1.size)
  have HCZ : Hid (∀ i, i < len0 → w2.cell? ⟨w.heap.size, i, none⟩ = some (.int .u8 (zs.getD i 0))) := hcz
  clear hb1 hb2 hc1 hcz
  go_loop [12] (fun i => ∃ k : Nat, p ≤ k ∧ k ≤ q ∧ i = .int .i64 k) (fun i => q - (intOf i).toNat)
  case atStart => exact ⟨p, by omega, hpq, rfl⟩
  case round =>
    obtain ⟨k, hk1, hk2, rfl⟩ := hrel
    by_cases hlt : k < q
    · have hck := HCZ.out k (by omega)
      have hsp : isSp (zs.getD k 0) = true := by
        have := HSP.out (k - p) (by have := HQ.out; omega)
        rwa [show p + (k - p) = k from by omega] at this
      obtain ⟨c, hc⟩ : ∃ c, c = zs.getD k 0 := ⟨_, rfl⟩
      rw [← hc] at hck hsp
      have HC : Hid (c = zs.getD k 0) := hc
      have HS : Hid (isSp c = true) := hsp
      clear hc hsp
      go_wp2_with (go_at_call 20; refine (ss_true HS.out _).mono ?_; rintro e w' ⟨rfl, rfl⟩)
      go_round
      case rel => exact ⟨k + 1, by omega, by omega, by go_num⟩
      case measure => simp [intOf]; omega
    · have hkq : k = q := by omega
      subst hkq
      by_cases hend : k < len0
      · have hck := HCZ.out k hend
        have hsp := HN.out hend
        obtain ⟨c, hc⟩ : ∃ c, c = zs.getD k 0 := ⟨_, rfl⟩
        rw [← hc] at hck hsp
        have HS : Hid (isSp c = false) := hsp
        clear hc hsp
        go_wp2_with (go_at_call 20; refine (ss_false HS.out _).mono ?_; rintro e w' ⟨rfl, rfl⟩)
        go_loop [13, 14, 15] (fun sc sl si => ∃ (m c : Nat) (last : Int), Back zs p d a3 m c last ∧ sc = .int .i64 c ∧ sl = .int .i64 last ∧ si = .int .i64 ((p : Int) + m - 1)) (fun _ _ si => (intOf si + 1 - p).toNat)
        case atStart => exact ⟨d, 0, -1, ⟨Nat.le_refl _, by omega, by omega, fun _ => ⟨rfl, rfl⟩, fun h => by omega, by omega, by omega⟩, rfl, rfl, by have := HQ.out; simp; omega⟩
        case round =>
          obtain ⟨m, c, last, hB, rfl, rfl, rfl⟩ := hrel
          have b1 := hB.le
          have b2 := hB.cle
          have b3 := hB.lo
          have b4 := hB.hi
          have b5 : p + d ≤ len0 := by have := HQ.out; omega
          have HB : Hid (Back zs p d a3 m c last) := hB
          clear hB
          match m with
          | 0 =>
            have hne : (nl != wrap64 (a2 + (c : Int))) = false := by
              have hsum : c = nls zs p d := by have := HB.out.sum; simpa [nls] using this
              rw [HNL.out, ← hsum]; simp
            by_cases hc0 : c = 0
            · have hns : (ns == a3) = true := by rw [HNS.out, (HB.out.zero hc0).2]; simp [lst]
              have hcz : ((c : Int) == 0) = true := by simpa using hc0
              clear hc0
              go_wp2
              go_ret
              exact ⟨rfl, hbel⟩
            · have hl0 := (HB.out.pos (by omega)).1
              have hns : (ns == last + 1) = true := by rw [HNS.out, (HB.out.pos (by omega)).2]; simp
              have hcz : ((c : Int) == 0) = false := by simpa using hc0
              clear hc0
              go_wp2
              go_ret
              exact ⟨rfl, hbel⟩
          | m + 1 =>
            have hcm := HCZ.out (p + m) (by omega)
            obtain ⟨z, hz⟩ : ∃ z, z = zs.getD (p + m) 0 := ⟨_, rfl⟩
            rw [← hz] at hcm
            have HZ : Hid (z = zs.getD (p + m) 0) := hz
            clear hz
            rw [show (p : Int) + ((m + 1 : Nat) : Int) - 1 = ((p + m : Nat) : Int) from by omega]
            by_cases hz10 : z = 10
            · have hzt : (z == 10) = true := by simpa using hz10
              have HT : Hid (zs.getD (p + m) 0 = 10) := by rw [← HZ.out]; exact hz10
              clear hz10
              by_cases hneg : last < 0
              · go_wp2
                go_round
                case rel => exact ⟨m, c + 1, _, back_hit0 HB.out HT.out hneg, by go_num, rfl, by go_num⟩
                case measure => simp [intOf]; omega
              · go_wp2
                go_round
                case rel => exact ⟨m, c + 1, last, back_hit1 HB.out HT.out (by omega), by go_num, rfl, by go_num⟩
                case measure => simp [intOf]; omega
            · have hzt : (z == 10) = false := by simpa using hz10
              have HT : Hid (zs.getD (p + m) 0 ≠ 10) := by rw [← HZ.out]; exact hz10
              clear hz10
              go_wp2
              go_round
              case rel => exact ⟨m, c, last, back_miss HB.out HT.out, rfl, rfl, by go_num⟩
              case measure => simp [intOf]; omega
      · go_wp2
        go_loop [13, 14, 15] (fun sc sl si => ∃ (m c : Nat) (last : Int), Back zs p d a3 m c last ∧ sc = .int .i64 c ∧ sl = .int .i64 last ∧ si = .int .i64 ((p : Int) + m - 1)) (fun _ _ si => (intOf si + 1 - p).toNat)
        case atStart => exact ⟨d, 0, -1, ⟨Nat.le_refl _, by omega, by omega, fun _ => ⟨rfl, rfl⟩, fun h => by omega, by omega, by omega⟩, rfl, rfl, by have := HQ.out; simp; omega⟩
        case round =>
          obtain ⟨m, c, last, hB, rfl, rfl, rfl⟩ := hrel
          have b1 := hB.le
          have b2 := hB.cle
          have b3 := hB.lo
          have b4 := hB.hi
          have b5 : p + d ≤ len0 := by have := HQ.out; omega
          have HB : Hid (Back zs p d a3 m c last) := hB
          clear hB
          match m with
          | 0 =>
            have hne : (nl != wrap64 (a2 + (c : Int))) = false := by
              have hsum : c = nls zs p d := by have := HB.out.sum; simpa [nls] using this
              rw [HNL.out, ← hsum]; simp
            by_cases hc0 : c = 0
            · have hns : (ns == a3) = true := by rw [HNS.out, (HB.out.zero hc0).2]; simp [lst]
              have hcz : ((c : Int) == 0) = true := by simpa using hc0
              clear hc0
              go_wp2
              go_ret
              exact ⟨rfl, hbel⟩
            · have hl0 := (HB.out.pos (by omega)).1
              have hns : (ns == last + 1) = true := by rw [HNS.out, (HB.out.pos (by omega)).2]; simp
              have hcz : ((c : Int) == 0) = false := by simpa using hc0
              clear hc0
              go_wp2
              go_ret
              exact ⟨rfl, hbel⟩
          | m + 1 =>
            have hcm := HCZ.out (p + m) (by omega)
            obtain ⟨z, hz⟩ : ∃ z, z = zs.getD (p + m) 0 := ⟨_, rfl⟩
            rw [← hz] at hcm
            have HZ : Hid (z = zs.getD (p + m) 0) := hz
            clear hz
            rw [show (p : Int) + ((m + 1 : Nat) : Int) - 1 = ((p + m : Nat) : Int) from by omega]
            by_cases hz10 : z = 10
            · have hzt : (z == 10) = true := by simpa using hz10
              have HT : Hid (zs.getD (p + m) 0 = 10) := by rw [← HZ.out]; exact hz10
              clear hz10
              by_cases hneg : last < 0
              · go_wp2
                go_round
                case rel => exact ⟨m, c + 1, _, back_hit0 HB.out HT.out hneg, by go_num, rfl, by go_num⟩
                case measure => simp [intOf]; omega
              · go_wp2
                go_round
                case rel => exact ⟨m, c + 1, last, back_hit1 HB.out HT.out (by omega), by go_num, rfl, by go_num⟩
                case measure => simp [intOf]; omega
            · have hzt : (z == 10) = false := by simpa using hz10
              have HT : Hid (zs.getD (p + m) 0 ≠ 10) := by rw [← HZ.out]; exact hz10
              clear hz10
              go_wp2
              go_round
              case rel => exact ⟨m, c, last, back_miss HB.out HT.out, rfl, rfl, by go_num⟩
              case measure => simp [intOf]; omega

theorem wrap_id {a : Int} (h : (Lit.int .i64 a).wf = true) : wrap64 a = a := by
  have := bounds_i64 h
  exact IntWalk.wrap64_in a ⟨this.1, this.2⟩

theorem walk (a0 : Option Addr) (len0 cap0 : Nat) (z0 : List Int) (a1 : Int) (a2 : Int) (a3 : Int) (w : World) (w0 : IsRow .u8 w a0 len0 cap0 z0) (_w1 : (Lit.int .i64 a1).wf = true) (w2 : (Lit.int .i64 a2).wf = true) (_w3 : (Lit.int .i64 a3).wf = true) :
    Calls Try.prog 6 #[.slice a0 len0 cap0, .int .i64 a1, .int .i64 a2, .int .i64 a3] w fun e w' => e = .returned (.bool true) ∧ Below w.heap.size w w' := by
  by_cases h0 : 1048576 < len0 ∨ a1 < 0
  · exact law_out a0 len0 cap0 a1 a2 a3 w h0
  · by_cases hz : len0 = 0
    · subst hz
      exact law_zero a0 cap0 z0 a1 a2 a3 w w0 (by omega)
    · by_cases hf : (len0 : Int) ≤ a1
      · exact law_far a0 len0 cap0 z0 a1 a2 a3 w w0 (by omega) (by omega) hf
      · obtain ⟨p, rfl⟩ : ∃ p : Nat, a1 = p := ⟨a1.toNat, by omega⟩
        exact law_near a0 len0 cap0 z0 p a2 a3 w w0 (by omega) (by omega) (wrap_id w2)
end Go.Proofs.Qxb6000609a.fnSkipSpaceExact
