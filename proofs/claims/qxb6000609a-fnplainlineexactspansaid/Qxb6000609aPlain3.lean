import Derived.Test.Qxb6000609aPlain2
namespace Go.Proofs.Qxb6000609a
open Go.RowKit

theorem below_draws {B : Nat} {a w : World} (h : Below B a w) (n : Nat) : Below B a (w.drewN n) := h.trans ⟨rfl, rfl, rfl, Nat.le_refl _, fun _ _ => rfl⟩

theorem row_open {a : Option Addr} {len cap : Nat} {zs : List Int} {w : World} (h : IsRow .u8 w a len cap zs) (hpos : 0 < len) :
    ∃ b off, a = some ⟨b, off, none⟩ ∧ b < w.heap.size ∧ ∀ i, i < len → w.cell? ⟨b, off + i, none⟩ = some (.int .u8 (zs.getD i 0)) := by
  rcases h with ⟨rfl, rfl, _⟩ | ⟨x, rfl, hl, hm, hz, hcell, hwf⟩
  · omega
  · obtain ⟨b, off, rfl, hc⟩ := ints_at hcell (by omega)
    exact ⟨b, off, rfl, World.block_lt_of_cell? w _ (hc 0 (by omega)), fun i hi => hc i (by omega)⟩

set_option maxHeartbeats 800000 in
theorem zz_plain_zero (a : Option Addr) (fl : Bool) (w : World) :
    Calls Try.prog 13 #[.slice a 0 0, .int .i64 0, .bool fl] w fun e w' => e = .returned (.tuple #[.int .i64 0, .int .i64 0]) ∧ Below w.heap.size w w' := by
  go_enter Try.func13, Try.ntmps13
  go_wp2_with (go_at_call 28; refine (plain_zero w.heap.size a fl _ ⟨by simp [World.cell?_alloc_at], by simp [World.cell?_alloc_at], World.frozen?_alloc_at _ _ _ _ rfl⟩).mono ?_; rintro e w1 ⟨rfl, rfl⟩)
  go_quiet (fail)
  go_wp2
  go_ret2
  exact ⟨rfl, below_draws ((Below.refl _ _).alloc (Nat.le_refl _) _) _⟩

set_option maxHeartbeats 800000 in
theorem zz_plain (g n p : Nat) (zs : List Int) (fl : Bool) (w : World) (hn : n ≤ 1048576) (hp : p ≤ n) (h0 : p = 0 → zs.getD 0 0 ≠ 35) (hg : g < w.heap.size)
    (hz : ∀ k, k < n → w.cell? ⟨g, k, none⟩ = some (.int .u8 (zs.getD k 0))) :
    Calls Try.prog 13 #[.slice (some ⟨g, 0, none⟩) n n, .int .i64 p, .bool fl] w fun e w' => ∃ x : Nat, e = .returned (.tuple #[.int .i64 x, .int .i64 x]) ∧ Span zs n fl p x ∧ Below w.heap.size w w' := by
  have H0 : Hid (p = 0 → zs.getD 0 0 ≠ 35) := h0
  have HZ : Hid (∀ k, k < n → w.cell? ⟨g, k, none⟩ = some (.int .u8 (zs.getD k 0))) := hz
  clear h0 hz
  go_enter Try.func13, Try.ntmps13
  go_wp2_with (go_at_call 28; refine (plain_any w.heap.size g n p zs fl _ hn hp H0.out ⟨by simp [World.cell?_alloc_at], by simp [World.cell?_alloc_at], World.frozen?_alloc_at _ _ _ _ rfl⟩ (fun k hk => by rw [World.cell?_alloc_past _ _ _ hg]; exact HZ.out k hk)).mono ?_; rintro e w1 ⟨x, rfl, rfl, hS⟩)
  go_quiet (fail)
  go_wp2
  go_ret2
  exact ⟨x, rfl, hS, below_draws ((Below.refl _ _).alloc (Nat.le_refl _) _) _⟩

/-! ### The plain law -/
theorem safe_mono (zs : List Int) (n i : Nat) (h : safe zs n false i = false) : safe zs n true i = false := by
  unfold safe at h ⊢
  rw [decide_eq_false_iff_not] at h ⊢
  intro ⟨h1, h2, h3, _⟩
  exact h ⟨h1, h2, h3, by simp⟩
theorem stop_mono (zs : List Int) (n i : Nat) (h : stop zs n false i = true) : stop zs n true i = true := by
  unfold stop at h ⊢
  rw [decide_eq_true_iff] at h ⊢
  rcases h with h | ⟨h1, h2⟩ | h | ⟨h, _⟩
  · exact .inl h
  · exact .inr (.inl ⟨h1, safe_mono zs n _ h2⟩)
  · exact .inr (.inr (.inl h))
  · cases h
theorem span_narrows {zs : List Int} {n p x y : Nat} (hf : Span zs n true p x) (hb : Span zs n false p y) : p ≤ x ∧ x ≤ y := by
  obtain ⟨i, hr, hi⟩ := hf
  obtain ⟨j, hq, hj⟩ := hb
  refine ⟨hr.pe, ?_⟩
  rcases Nat.lt_or_ge y x with hlt | hge
  · have hp : p ≤ y := hq.pe
    have hl := hr.last (by omega)
    have hx := hr.ei
    have hn := hr.i_n
    rcases Nat.lt_or_ge (x - 1) j with h1 | h1
    · have := hq.bl (x - 1) (by omega) h1
      rw [hl] at this; cases this
    · have h2 := stop_mono zs n j (hj (by omega)).2
      have h3 := hr.go j (by have := hq.ei; omega) (by omega)
      rw [h2] at h3; cases h3
  · exact hge
end Go.Proofs.Qxb6000609a

namespace Go.Proofs.Qxb6000609a
open Go.RowKit
theorem clone_hid (b off len cap : Nat) (zs : List Int) (w : World) (hlen : len ≤ 1048576) (hb : 0 < len → b < w.heap.size)
    (hc : ∀ i, i < len → w.cell? ⟨b, off + i, none⟩ = some (.int .u8 (zs.getD i 0))) :
    Calls Try.prog 12 #[.slice (some ⟨b, off, none⟩) len cap] w fun e w' =>
      e = .returned (.slice (some ⟨w.heap.size, 0, none⟩) len len) ∧ Below w.heap.size w w' ∧ w.heap.size < w'.heap.size ∧
      Hid (∀ i, i < len → w'.cell? ⟨w.heap.size, i, none⟩ = some (.int .u8 (zs.getD i 0))) := clone_some b off len cap zs w hlen hb hc
end Go.Proofs.Qxb6000609a

namespace Go.Proofs.Qxb6000609a.fnPlainLineFlowNarrows
open Go.RowKit

set_option maxHeartbeats 400000 in
theorem law_out (a0 : Option Addr) (len0 cap0 : Nat) (a1 : Int) (w : World) (h : 1048576 < len0 ∨ a1 < 0 ∨ (len0 : Int) < a1) :
    Calls Try.prog 5 #[.slice a0 len0 cap0, .int .i64 a1] w fun e w' => e = .returned (.bool true) ∧ Below w.heap.size w w' := by
  by_cases h1 : 1048576 < len0
  · go_enter Try.func5, Try.ntmps5
    go_wp2
    go_ret
    exact ⟨rfl, Below.refl _ _⟩
  have h1' : len0 ≤ 1048576 := by omega
  by_cases h2 : a1 < 0
  · go_enter Try.func5, Try.ntmps5
    go_wp2
    go_ret
    exact ⟨rfl, Below.refl _ _⟩
  have h3 : (len0 : Int) < a1 := by omega
  clear h
  go_enter Try.func5, Try.ntmps5
  go_wp2
  go_ret
  exact ⟨rfl, Below.refl _ _⟩

set_option maxHeartbeats 800000 in
theorem law_zero (a0 : Option Addr) (cap0 : Nat) (zs : List Int) (w : World) (h : IsRow .u8 w a0 0 cap0 zs) :
    Calls Try.prog 5 #[.slice a0 0 cap0, .int .i64 0] w fun e w' => e = .returned (.bool true) ∧ Below w.heap.size w w' := by
  go_enter Try.func5, Try.ntmps5
  go_wp2_with (first
    | (go_at_call 17; go_in)
    | (go_at_call 12; refine (clone_zero a0 cap0 zs _ h).mono ?_; rintro e w1 ⟨⟨a', rfl⟩, hb1⟩))
  refine (zz_plain_zero a' _ _).mono ?_
  rintro e w2 ⟨rfl, hb2⟩
  go_wp2_with fail
  refine (zz_plain_zero a' _ _).mono ?_
  rintro e w3 ⟨rfl, hb3⟩
  go_wp2
  go_ret
  exact ⟨rfl, (hb1.trans (hb2.mono hb1.size)).trans (hb3.mono (Nat.le_trans hb1.size hb2.size))⟩

set_option maxHeartbeats 800000 in
/-- A '#' at the text's head, read from there: the law says nothing. -/
theorem law_hash (b off len0 cap0 : Nat) (zs : List Int) (w : World) (hl : len0 ≤ 1048576) (hp : 0 < len0) (h : zs.getD 0 0 = 35)
    (hc : ∀ i, i < len0 → w.cell? ⟨b, off + i, none⟩ = some (.int .u8 (zs.getD i 0))) :
    Calls Try.prog 5 #[.slice (some ⟨b, off, none⟩) len0 cap0, .int .i64 0] w fun e w' => e = .returned (.bool true) ∧ Below w.heap.size w w' := by
  have h0 := hc 0 hp
  rw [h] at h0
  simp only [Nat.add_zero] at h0
  clear hc h
  go_enter Try.func5, Try.ntmps5
  go_wp2
  go_ret
  exact ⟨rfl, Below.refl _ _⟩

set_option maxHeartbeats 1600000 in
theorem law_in (b off len0 cap0 p : Nat) (zs : List Int) (w : World) (hl : len0 ≤ 1048576) (hp : 0 < len0) (hpl : p ≤ len0) (h : p = 0 → zs.getD 0 0 ≠ 35) (hb : b < w.heap.size)
    (hc : ∀ i, i < len0 → w.cell? ⟨b, off + i, none⟩ = some (.int .u8 (zs.getD i 0))) :
    Calls Try.prog 5 #[.slice (some ⟨b, off, none⟩) len0 cap0, .int .i64 p] w fun e w' => e = .returned (.bool true) ∧ Below w.heap.size w w' := by
  have H : Hid (p = 0 → zs.getD 0 0 ≠ 35) := h
  have HC : Hid (∀ i, i < len0 → w.cell? ⟨b, off + i, none⟩ = some (.int .u8 (zs.getD i 0))) := hc
  have hn3 : ¬ len0 < p := by omega
  by_cases hp0 : p = 0
  · have h0 := hc 0 hp
    obtain ⟨c, hc0⟩ : ∃ c, c = zs.getD 0 0 := ⟨_, rfl⟩
    rw [← hc0] at h0
    have hne : (c == 35) = false := by have := h hp0; simp; omega
    simp only [Nat.add_zero] at h0
    clear hc h hc0
    subst hp0
    go_enter Try.func5, Try.ntmps5
    go_wp2_with (first
      | (go_at_call 17; go_in)
      | (go_at_call 12; refine (clone_hid b off len0 cap0 zs _ hl (fun _ => hb) HC.out).mono ?_; rintro e w1 ⟨rfl, hb1, hs1, HC1⟩))
    refine (zz_plain w.heap.size len0 _ zs _ _ hl hpl (fun e => H.out (by first | trivial | exact e)) hs1 HC1.out).mono ?_
    rintro e w2 ⟨x, rfl, hS2, hb2⟩
    have hp2 := hS2.choose_spec.1.pe
    have hx2 := hS2.choose_spec.1.ei
    have hn2 := hS2.choose_spec.1.i_n
    go_wp2_with fail
    refine (zz_plain w.heap.size len0 _ zs _ _ hl hpl (fun e => H.out (by first | trivial | exact e)) (Nat.lt_of_lt_of_le hs1 hb2.size) (fun k hk => (hb2.cell (by exact hs1)).trans (HC1.out k hk))).mono ?_
    rintro e w3 ⟨y, rfl, hS3, hb3⟩
    have hxy := span_narrows hS2 hS3
    obtain ⟨hx1, hx3⟩ := hxy
    clear hp2 hx2 hn2
    go_wp2
    go_ret
    exact ⟨rfl, (hb1.trans (hb2.mono hb1.size)).trans (hb3.mono (Nat.le_trans hb1.size hb2.size))⟩
  · have hne : ((p : Int) == 0) = false := by simpa using hp0
    clear hc h hp0
    go_enter Try.func5, Try.ntmps5
    go_wp2_with (first
      | (go_at_call 17; go_in)
      | (go_at_call 12; refine (clone_hid b off len0 cap0 zs _ hl (fun _ => hb) HC.out).mono ?_; rintro e w1 ⟨rfl, hb1, hs1, HC1⟩))
    refine (zz_plain w.heap.size len0 _ zs _ _ hl hpl (fun e => H.out (by first | trivial | exact e)) hs1 HC1.out).mono ?_
    rintro e w2 ⟨x, rfl, hS2, hb2⟩
    have hp2 := hS2.choose_spec.1.pe
    have hx2 := hS2.choose_spec.1.ei
    have hn2 := hS2.choose_spec.1.i_n
    go_wp2_with fail
    refine (zz_plain w.heap.size len0 _ zs _ _ hl hpl (fun e => H.out (by first | trivial | exact e)) (Nat.lt_of_lt_of_le hs1 hb2.size) (fun k hk => (hb2.cell (by exact hs1)).trans (HC1.out k hk))).mono ?_
    rintro e w3 ⟨y, rfl, hS3, hb3⟩
    have hxy := span_narrows hS2 hS3
    obtain ⟨hx1, hx3⟩ := hxy
    clear hp2 hx2 hn2
    go_wp2
    go_ret
    exact ⟨rfl, (hb1.trans (hb2.mono hb1.size)).trans (hb3.mono (Nat.le_trans hb1.size hb2.size))⟩

theorem walk (a0 : Option Addr) (len0 cap0 : Nat) (z0 : List Int) (a1 : Int) (w : World) (w0 : IsRow .u8 w a0 len0 cap0 z0) (_w1 : (Lit.int .i64 a1).wf = true) :
    Calls Try.prog 5 #[.slice a0 len0 cap0, .int .i64 a1] w fun e w' => e = .returned (.bool true) ∧ Below w.heap.size w w' := by
  by_cases h : 1048576 < len0 ∨ a1 < 0 ∨ (len0 : Int) < a1
  · exact law_out a0 len0 cap0 a1 w h
  by_cases hz : len0 = 0
  · subst hz
    obtain rfl : a1 = 0 := by omega
    exact law_zero a0 cap0 z0 w w0
  obtain ⟨b, off, rfl, hb, hc⟩ := row_open w0 (by omega)
  obtain ⟨p, rfl⟩ : ∃ p : Nat, a1 = p := ⟨a1.toNat, by omega⟩
  by_cases hh : p = 0 ∧ z0.getD 0 0 = 35
  · obtain ⟨rfl, hh⟩ := hh
    exact law_hash b off len0 cap0 z0 w (by omega) (by omega) hh hc
  · exact law_in b off len0 cap0 p z0 w (by omega) (by omega) (by omega) (fun e h35 => hh ⟨e, h35⟩) hb hc
end Go.Proofs.Qxb6000609a.fnPlainLineFlowNarrows
