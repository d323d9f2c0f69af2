import Derived.Test.Qxb6000609aAppend
namespace Go.Proofs.Qxb6000609a
open Go.RowKit

/-- The JSON string of l. -/
def jstr (l : List Int) : List Int := [34] ++ enc l ++ [34]

theorem ret_int {k : IntKind} {a b : Int} (h : a = b) : Ending.returned (.int k a) = .returned (.int k b) := by rw [h]

theorem jstr_len (l : List Int) : (jstr l).length = (enc l).length + 2 := by simp [jstr]

theorem Buf.form {B : Nat} {v : Value} {xs : List Int} {W0 w : World} (h : Buf B v xs W0 w) :
    ∃ a cap, v = .slice a xs.length cap ∧ xs.length ≤ cap ∧ (0 < xs.length → ∃ g, a = some ⟨g, 0, none⟩ ∧ B ≤ g ∧ g < w.heap.size ∧ ∀ i, i < xs.length → w.cell? ⟨g, i, none⟩ = some (.int .u8 (xs.getD i 0))) := by
  have hown := h.1
  rcases h.1.2 with ⟨hv, hn⟩ | ⟨g, cap, cur, hv, hB, hg, hc, hm, hs, ht⟩
  · exact ⟨none, 0, by rw [hv, hn], by omega, fun h => by omega⟩
  · refine ⟨some ⟨g, 0, none⟩, cap, hv, hc, fun _ => ⟨g, rfl, hB, (Array.getElem?_eq_some_iff.1 hg).1, fun i hi => ?_⟩⟩
    rw [hv] at hown
    rw [hown.cellAt i (by omega), List.getElem?_map]
    simp [List.getD, hi]

theorem zzAppend_form (s : ByteArray) (w : World) (hs : s.size ≤ 1048576) :
    Calls Try.prog 23 #[.slice none 0 0, .string s] w fun e w' => ∃ g N cap, e = .returned (.slice (some ⟨g, 0, none⟩) N cap) ∧ w.heap.size ≤ g ∧ g < w'.heap.size ∧ 2 ≤ N ∧ N ≤ 6291458 ∧ N ≤ cap ∧
      Hid (N = (enc (bs s)).length + 2) ∧ Hid (∀ k, k < N → w'.cell? ⟨g, k, none⟩ = some (.int .u8 ((jstr (bs s)).getD k 0))) ∧ Below w.heap.size w w' := by
  refine (zzAppend_any s w hs).mono ?_
  rintro e w' ⟨v', rfl, hb⟩
  have hl := enc_len (bs s)
  rw [bs_length] at hl
  have hj := jstr_len (bs s)
  obtain ⟨a, cap, rfl, hc, hp⟩ := hb.form
  obtain ⟨g, rfl, hg1, hg2, hcell⟩ := hp (by show 0 < (jstr (bs s)).length; omega)
  refine ⟨g, (jstr (bs s)).length, cap, rfl, hg1, hg2, by omega, by omega, hc, hj, hcell, hb.2.1⟩

/-- hexVal at a digit that was written. -/
theorem hexVal_any (d : Int) (h0 : 0 ≤ d) (h1 : d < 16) (w : World) : Calls Try.prog 24 #[.int .u8 (hexD d)] w fun e w' => e = .returned (.int .i64 d) ∧ w = w' := by
  by_cases h : d < 10
  · rw [show hexD d = 48 + d from by simp [hexD, h]]
    go_enter Try.func24, Try.ntmps24
    go_wp2
    go_ret
    exact ⟨ret_int (by omega), rfl⟩
  · rw [show hexD d = 87 + d from by simp [hexD, h]]
    go_enter Try.func24, Try.ntmps24
    go_wp2
    go_ret
    exact ⟨ret_int (by omega), rfl⟩

theorem enc_take_succ (l : List Int) (j : Nat) (h : j < l.length) : enc (l.take (j + 1)) = enc (l.take j) ++ enc1 (l.getD j 0) := by
  rw [List.take_succ_eq_append_getElem h, enc_append]
  have e : l[j] = l.getD j 0 := by simp [List.getD, h]
  rw [e, enc_cons, enc_nil]; simp

theorem take_snoc (l : List Int) (j : Nat) (h : j < l.length) : l.take (j + 1) = l.take j ++ [l.getD j 0] := by
  rw [List.take_succ_eq_append_getElem h]; simp [List.getD, h]

/-- Where the j-th byte's signs stand in the JSON string. -/
theorem jstr_at (l : List Int) (j t : Nat) (h : j < l.length) (ht : t < (enc1 (l.getD j 0)).length) :
    (jstr l).getD ((enc (l.take j)).length + 1 + t) 0 = (enc1 (l.getD j 0)).getD t 0 := by
  have e : jstr l = ([34] ++ enc (l.take j)) ++ (enc1 (l.getD j 0) ++ (enc (l.drop (j + 1)) ++ [34])) := by
    unfold jstr
    conv => lhs; rw [← List.take_append_drop (j + 1) l]
    rw [enc_append, enc_take_succ l j h]; simp
  have hq : (([34] : List Int) ++ enc (l.take j)).length = (enc (l.take j)).length + 1 := by simp
  rw [e, List.getD, List.getElem?_append_right (by omega), hq, show (enc (l.take j)).length + 1 + t - ((enc (l.take j)).length + 1) = t from by omega]
  rw [List.getElem?_append_left ht]; rfl

theorem jstr_fits (l : List Int) (j : Nat) (h : j < l.length) : (enc (l.take j)).length + (enc1 (l.getD j 0)).length ≤ (enc l).length := by
  have e : enc l = enc (l.take (j + 1)) ++ enc (l.drop (j + 1)) := by rw [← enc_append, List.take_append_drop]
  rw [e, enc_take_succ l j h]; simp

theorem jstr_first (l : List Int) : (jstr l).getD 0 0 = 34 := by simp [jstr]
theorem jstr_last (l : List Int) : (jstr l).getD ((enc l).length + 1) 0 = 34 := by
  unfold jstr
  have hq : (([34] : List Int) ++ enc l).length = (enc l).length + 1 := by simp
  rw [List.getD, List.getElem?_append_right (by omega), hq, Nat.sub_self]; rfl
theorem enc_end (l : List Int) (j : Nat) (hj : j ≤ l.length) (h : (enc (l.take j)).length = (enc l).length) : j = l.length := by
  rcases Nat.lt_or_ge j l.length with hlt | hge
  · have := jstr_fits l j hlt
    have h1 : 0 < (enc1 (l.getD j 0)).length := by
      unfold enc1
      by_cases hm : must (l.getD j 0) = true
      · rw [if_pos hm]; unfold esc1; repeat' split
        all_goals simp
      · rw [if_neg hm]; simp
    omega
  · omega
end Go.Proofs.Qxb6000609a
