import Derived.Test.Qxb6001442aLines
namespace Go.Proofs.Qxb6001442a
open Go.RowKit

theorem info26 : (Try.prog.info? 26).map (fun i => (i.zero, i.size, i.bytes)) = some (some (.pointer none), 1, 8) := by kernel_rfl

/-- The pointers to the first k lines. -/
def ptrs (L k : Nat) : List Value := (List.range k).map fun j => Value.pointer (some ⟨L, j * 9, none⟩)
theorem ptrs_length (L k : Nat) : (ptrs L k).length = k := by simp [ptrs]
theorem ptrs_succ (L k : Nat) : ptrs L (k + 1) = ptrs L k ++ [.pointer (some ⟨L, k * 9, none⟩)] := by simp [ptrs, List.range_succ]
theorem ptrs_get (L k j : Nat) (h : j < k) : (ptrs L k)[j]? = some (.pointer (some ⟨L, j * 9, none⟩)) := by simp [ptrs, h]
theorem one_new {w : World} {g : Nat} {v : Value} (h : w.cell? ⟨g, 0, none⟩ = some v) : ∀ j u, ([v] : List Value)[j]? = some u → w.cell? ((⟨g, 0, none⟩ : Addr).add j) = some u := by
  intro j u hj
  match j, hj with
  | 0, hj =>
    have e : v = u := by simpa using hj
    rw [Addr.add_mid, ← e]; exact h
  | j + 1, hj => simp at hj

set_option maxHeartbeats 1600000 in
theorem withPool_none (L n : Nat) (w : World) (hn : n ≤ 131072) :
    Calls Try.prog 13 #[.slice (some ⟨L, 0, none⟩) n n, .pointer none] w fun e w' =>
      e = .returned (.slice (some ⟨w.heap.size, 0, none⟩) n (n + 1)) ∧ (∀ j, j < n → w'.cell? ⟨w.heap.size, j, none⟩ = some (.pointer (some ⟨L, j * 9, none⟩))) ∧ Below w.heap.size w w' := by
  obtain ⟨i0, hi, hz0, hz1, hz2⟩ := info_parts info26
  go_enter Try.func13, Try.ntmps13
  go_wp2_with (at_make; refine wpList_make_own _ rfl _ _ 43 rfl w.heap.size 26 i0 (.pointer none) 1 Try.underlying43 hi hz0 hz1 _ _ _ (n + 1) rfl rfl (by omega) ?b2 ?b3 (Nat.le_refl _) ?_)
  case b2 => rw [hz2]; omega
  case b3 => unfold maxLen; omega
  intro w0 hown0 hgrow0
  have hb0 : Below w.heap.size w w0 := (Below.refl _ _).grown hgrow0 (Nat.le_refl _) (fun k h => by cases h)
  clear hgrow0
  go_wp2
  go_loopw [5, 13, 6] (fun v si _ wr => ∃ k : Nat, k ≤ n ∧ si = .int .i64 k ∧ v = .slice (some ⟨w.heap.size, 0, none⟩) k (n + 1) ∧ wr.ownsRow w.heap.size 26 1 (.slice (some ⟨w.heap.size, 0, none⟩) k (n + 1)) k (ptrs L k) ∧ Below w.heap.size w wr) (fun _ si _ _ => n - (intOf si).toNat)
  case atStart => exact ⟨0, Nat.zero_le _, rfl, rfl, hown0, hb0⟩
  case round =>
    obtain ⟨k, hk, rfl, rfl, hown, hb⟩ := hrel
    by_cases hlt : k < n
    · go_wp2_with (at_builtin; refine wpList_append_fits _ rfl (.tmp 16) (.tmp 20) 43 rfl w.heap.size 26 i0 1 Try.underlying43 hi hz1 w.heap.size k (n + 1) _ rfl (hown.alloc _) ⟨wr.heap.size, 0, none⟩ 1 1 [.pointer (some ⟨L, k * 9, none⟩)] rfl rfl ?_ ?_ (by omega) ?_; (refine one_new ?_; simp); (intro u hu; simp at hu; subst hu; rfl); intro w1 hown1 hgrow1)
      go_roundw
      case rel => exact ⟨k + 1, by omega, by go_num, rfl, by rw [ptrs_succ]; exact hown1, (hb.alloc hb.size _).grown hgrow1 (by simp; have := hb.size; omega) (fun j hj => by cases hj; exact Nat.le_refl _)⟩
      case measure => simp [intOf]; omega
    · have ek : k = n := by omega
      subst ek
      go_wp2
      go_ret
      exact ⟨rfl, fun j hj => by rw [hown.cellAt j (by omega)]; exact ptrs_get L k j hj, hb⟩

set_option maxHeartbeats 1600000 in
theorem withPool_some (L n Q : Nat) (w : World) (hn : n ≤ 131072) :
    Calls Try.prog 13 #[.slice (some ⟨L, 0, none⟩) n n, .pointer (some ⟨Q, 0, none⟩)] w fun e w' =>
      e = .returned (.slice (some ⟨w.heap.size, 0, none⟩) (n + 1) (n + 1)) ∧ w'.cell? ⟨w.heap.size, n, none⟩ = some (.pointer (some ⟨Q, 0, none⟩)) ∧ (∀ j, j < n → w'.cell? ⟨w.heap.size, j, none⟩ = some (.pointer (some ⟨L, j * 9, none⟩))) ∧ Below w.heap.size w w' := by
  obtain ⟨i0, hi, hz0, hz1, hz2⟩ := info_parts info26
  go_enter Try.func13, Try.ntmps13
  go_wp2_with (at_make; refine wpList_make_own _ rfl _ _ 43 rfl w.heap.size 26 i0 (.pointer none) 1 Try.underlying43 hi hz0 hz1 _ _ _ (n + 1) rfl rfl (by omega) ?b2 ?b3 (Nat.le_refl _) ?_)
  case b2 => rw [hz2]; omega
  case b3 => unfold maxLen; omega
  intro w0 hown0 hgrow0
  have hb0 : Below w.heap.size w w0 := (Below.refl _ _).grown hgrow0 (Nat.le_refl _) (fun k h => by cases h)
  clear hgrow0
  go_wp2
  go_loopw [5, 13, 6] (fun v si _ wr => ∃ k : Nat, k ≤ n ∧ si = .int .i64 k ∧ v = .slice (some ⟨w.heap.size, 0, none⟩) k (n + 1) ∧ wr.ownsRow w.heap.size 26 1 (.slice (some ⟨w.heap.size, 0, none⟩) k (n + 1)) k (ptrs L k) ∧ Below w.heap.size w wr) (fun _ si _ _ => n - (intOf si).toNat)
  case atStart => exact ⟨0, Nat.zero_le _, rfl, rfl, hown0, hb0⟩
  case round =>
    obtain ⟨k, hk, rfl, rfl, hown, hb⟩ := hrel
    by_cases hlt : k < n
    · go_wp2_with (at_builtin; refine wpList_append_fits _ rfl (.tmp 16) (.tmp 20) 43 rfl w.heap.size 26 i0 1 Try.underlying43 hi hz1 w.heap.size k (n + 1) _ rfl (hown.alloc _) ⟨wr.heap.size, 0, none⟩ 1 1 [.pointer (some ⟨L, k * 9, none⟩)] rfl rfl ?_ ?_ (by omega) ?_; (refine one_new ?_; simp); (intro u hu; simp at hu; subst hu; rfl); intro w1 hown1 hgrow1)
      go_roundw
      case rel => exact ⟨k + 1, by omega, by go_num, rfl, by rw [ptrs_succ]; exact hown1, (hb.alloc hb.size _).grown hgrow1 (by simp; have := hb.size; omega) (fun j hj => by cases hj; exact Nat.le_refl _)⟩
      case measure => simp [intOf]; omega
    · have ek : k = n := by omega
      subst ek
      go_wp2_with (at_builtin; refine wpList_append_fits _ rfl (.tmp 25) (.tmp 27) 43 rfl w.heap.size 26 i0 1 Try.underlying43 hi hz1 w.heap.size k (k + 1) _ rfl (hown.alloc _) ⟨wr.heap.size, 0, none⟩ 1 1 [.pointer (some ⟨Q, 0, none⟩)] rfl rfl ?_ ?_ (Nat.le_refl _) ?_; (refine one_new ?_; simp); (intro u hu; simp at hu; subst hu; rfl); intro w1 hown1 hgrow1)
      go_ret
      refine ⟨rfl, ?_, fun j hj => ?_, (hb.alloc hb.size _).grown hgrow1 (by simp; have := hb.size; omega) (fun j hj => by cases hj; exact Nat.le_refl _)⟩
      · rw [hown1.cellAt k (by omega), List.getElem?_append_right (by rw [ptrs_length]; exact Nat.le_refl _), ptrs_length, Nat.sub_self]; rfl
      · rw [hown1.cellAt j (by omega), List.getElem?_append_left (by rw [ptrs_length]; exact hj)]; exact ptrs_get L k j hj
end Go.Proofs.Qxb6001442a
