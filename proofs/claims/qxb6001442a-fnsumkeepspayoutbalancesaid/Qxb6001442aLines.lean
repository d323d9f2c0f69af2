import Derived.Test.Qxb6001442aLine
namespace Go.Proofs.Qxb6001442a
open Go.RowKit

theorem info33 : (Try.prog.info? 33).map (fun i => (i.zero, i.size, i.bytes)) = some (some (.agg #[.string ⟨#[]⟩, .string ⟨#[]⟩, .string ⟨#[]⟩, .int .i64 0, .pointer none, .int .i64 0, .int .i64 0, .int .i64 0, .int .i64 0]), 9, 96) := by kernel_rfl
theorem size33 : (Try.prog.info? 33).map (·.size) = some 9 := by kernel_rfl

/-- The j-th line. -/
def ln (z : Nat → Int) (j : Nat) : List Value := lineC mt mt mt (z (5 * j)) (z (5 * j + 1)) (z (5 * j + 2)) (z (5 * j + 3)) (z (5 * j + 4))
theorem ln_length (z : Nat → Int) (j : Nat) : (ln z j).length = 9 := rfl
theorem ln_one (z : Nat → Int) (j : Nat) : (ln z j).toArray.all (·.oneCell') = true := all_oneCell_toArray (fun v hv => by
  simp only [ln, lineC, List.mem_cons, List.not_mem_nil, or_false] at hv
  rcases hv with rfl | rfl | rfl | rfl | rfl | rfl | rfl | rfl | rfl <;> rfl)

theorem there_below {B b : Nat} {w w' : World} {o n : Nat} (h : w.there b o n) (hb : Below B w w') (hlt : b < B) : w'.there b o n := fun j hj => by
  rw [hb.cell (by exact hlt), hb.frozen (by exact hlt)]; exact h j hj
theorem range_below {B b : Nat} {w w' : World} {o : Nat} {cs : List Value} (h : w.rangeAt b o cs) (hb : Below B w w') (hlt : b < B) : w'.rangeAt b o cs := fun j v hv => by
  rw [hb.cell (by exact hlt)]; exact h j v hv
theorem below_setCells {C : Nat} {a : World} (b : Nat) (hb : C ≤ b) : ∀ (vs : List Value) (o : Nat) (w : World), Below C a w → Below C a (w.setCells b o vs)
  | [], _, _, h => h
  | v :: r, o, w, h => by
    rw [World.setCells]
    exact below_setCells b hb r (o + 1) _ (h.setCell (by exact hb) _)
theorem size_setCells (b : Nat) : ∀ (vs : List Value) (o : Nat) (w : World), (w.setCells b o vs).heap.size = w.heap.size
  | [], _, _ => rfl
  | v :: r, o, w => by rw [World.setCells, size_setCells b r (o + 1)]; simp [World.setCell]
theorem there_sub {w : World} {b n o m : Nat} (h : w.there b 0 n) (hs : o + m ≤ n) : w.there b o m := fun j hj => by
  have := h (o + j) (by omega)
  rwa [Nat.zero_add] at this

set_option maxHeartbeats 1600000 in
set_option maxRecDepth 100000 in
theorem lines_pos (V len n : Nat) (z : Nat → Int) (w : World) (hn0 : 0 < n) (hn1 : 5 * n ≤ len) (hn2 : len < 5 * n + 5) (hl : len ≤ 131072) (hV : V < w.heap.size) (hz : ∀ k, k < len → w.cell? ⟨V, k, none⟩ = some (.int .i64 (z k))) :
    Calls Try.prog 9 #[.slice (some ⟨V, 0, none⟩) len len, .slice none 0 0] w fun e w' =>
      e = .returned (.slice (some ⟨w.heap.size, 0, none⟩) n n) ∧ (∀ j, j < n → w'.rangeAt w.heap.size (j * 9) (ln z j)) ∧ Below w.heap.size w w' ∧ w.heap.size < w'.heap.size := by
  obtain ⟨i0, hi, hz0, hz1, hz2⟩ := info_parts info33
  have HZ : Hid (∀ k, k < len → w.cell? ⟨V, k, none⟩ = some (.int .i64 (z k))) := hz
  clear hz
  go_enter Try.func9, Try.ntmps9
  go_wp2_with (at_make; refine wpList_make_full _ rfl _ _ 28 rfl w.heap.size 33 i0 _ 9 Try.underlying28 hi hz0 hz1 _ _ _ _ n rfl rfl (by omega) (by omega) ?b2 ?b3 (Nat.le_refl _) ?_)
  case b2 => rw [hz2]; omega
  case b3 => unfold maxLen; omega
  intro w0 hown0 hgrow0
  have hb0 : Below w.heap.size w w0 := (Below.refl _ _).grown hgrow0 (Nat.le_refl _) (fun k h => by cases h)
  have hs0 : w.heap.size < w0.heap.size := (hown0.lt w.heap.size rfl).2
  have ht0 : w0.there w.heap.size 0 (n * 9) := fun j hj => by
    rw [Nat.zero_add]
    refine ⟨?_, hown0.frozenAt j⟩
    rw [hown0.cellAt j hj, List.getElem?_eq_getElem (by rw [hown0.1]; exact hj)]; rfl
  clear hown0 hgrow0
  go_wp2
  go_loopw [7] (fun si wr => ∃ k : Nat, k ≤ n ∧ si = .int .i64 k ∧ wr.there w.heap.size 0 (n * 9) ∧ (∀ j, j < k → wr.rangeAt w.heap.size (j * 9) (ln z j)) ∧ Below w.heap.size w wr ∧ w.heap.size < wr.heap.size) (fun si _ => n - (intOf si).toNat)
  case atStart => exact ⟨0, Nat.zero_le _, rfl, ht0, fun j h => absurd h (Nat.not_lt_zero _), hb0, hs0⟩
  case round =>
    clear ht0 hb0 hs0
    obtain ⟨k, hk, rfl, ht, hr, hb, hs⟩ := hrel
    have HT : Hid (wr.there w.heap.size 0 (n * 9)) := ht
    have HR : Hid (∀ j, j < k → wr.rangeAt w.heap.size (j * 9) (ln z j)) := hr
    clear ht hr
    by_cases hlt : k < n
    · go_wp2_with (first
        | (go_at_call 12; refine (line_any V len k z _ (by omega) hl ?_).mono ?_; (intro i hi; rw [hb.cell (by exact hV)]; exact HZ.out i hi); rintro e w2 ⟨rfl, hb2⟩)
        | (refine wpList_store_mid rfl 33 (.tmp 24) (.tmp 23) rfl w.heap.size (k * 9) (ln z k).toArray rfl rfl ?_ size33 (ln_one z k) ?_; (exact there_sub (there_below HT.out hb2 hs) (by show k * 9 + 9 ≤ n * 9; omega))))
      go_roundw
      case rel =>
        refine ⟨k + 1, by omega, by go_num, World.there_setCells (there_below HT.out hb2 hs) _ _ _, fun j hj => ?_, below_setCells _ (Nat.le_refl _) _ _ _ (hb.trans (hb2.mono (by omega))), ?_⟩
        · by_cases e : j = k
          · subst e; exact World.rangeAt_setCells_same _ _ _ _ (there_sub (there_below HT.out hb2 hs) (by show j * 9 + 9 ≤ n * 9; omega))
          · exact World.rangeAt_setCells_apart (range_below (HR.out j (by omega)) hb2 hs) _ _ _ (Or.inr (Or.inl (by show j * 9 + 9 ≤ k * 9; omega)))
        · rw [size_setCells]; exact Nat.lt_of_lt_of_le hs hb2.size
      case measure => simp [intOf]; omega
    · have ek : k = n := by omega
      subst ek
      go_wp2
      go_ret
      exact ⟨rfl, HR.out, hb, hs⟩

set_option maxHeartbeats 400000 in
theorem lines_zero (a : Option Addr) (len : Nat) (w : World) (hl : len < 5) :
    Calls Try.prog 9 #[.slice a len len, .slice none 0 0] w fun e w' => e = .returned (.slice (some ⟨w.heap.size, 0, none⟩) 0 0) ∧ Below w.heap.size w w' ∧ w.heap.size < w'.heap.size := by
  obtain ⟨i0, hi, hz0, hz1, hz2⟩ := info_parts info33
  go_enter Try.func9, Try.ntmps9
  go_wp2_with (at_make; refine wpList_make_full _ rfl _ _ 28 rfl w.heap.size 33 i0 _ 9 Try.underlying28 hi hz0 hz1 _ _ _ _ 0 rfl rfl (by omega) (by omega) ?b2 ?b3 (Nat.le_refl _) ?_)
  case b2 => omega
  case b3 => unfold maxLen; omega
  intro w0 hown0 hgrow0
  have hb0 : Below w.heap.size w w0 := (Below.refl _ _).grown hgrow0 (Nat.le_refl _) (fun k h => by cases h)
  have hs0 : w.heap.size < w0.heap.size := (hown0.lt w.heap.size rfl).2
  clear hown0 hgrow0
  go_wp2
  go_loop [7] (fun si => si = .int .i64 0) (fun _ => 0)
  case atStart => rfl
  case round =>
    subst hrel
    go_wp2
    go_ret
    exact ⟨rfl, hb0, hs0⟩
end Go.Proofs.Qxb6001442a
