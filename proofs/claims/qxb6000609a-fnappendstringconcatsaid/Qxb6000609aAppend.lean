import Derived.Test.Qxb6000609aEsc2
namespace Go.Proofs.Qxb6000609a
open Go.RowKit

/-- What appendString writes for one byte. -/
def enc1 (c : Int) : List Int := if must c = true then esc1 c else [c]
def enc (l : List Int) : List Int := l.flatMap enc1

theorem enc_nil : enc [] = [] := rfl
theorem enc_cons (c : Int) (l : List Int) : enc (c :: l) = enc1 c ++ enc l := by simp [enc]
theorem enc_append (l m : List Int) : enc (l ++ m) = enc l ++ enc m := by simp [enc]
theorem esc1_len (c : Int) : (esc1 c).length ≤ 6 := by
  unfold esc1
  by_cases h1 : c = 34 ∨ c = 92
  · rw [if_pos h1]; simp
  rw [if_neg h1]
  by_cases h2 : c = 8
  · rw [if_pos h2]; simp
  rw [if_neg h2]
  by_cases h3 : c = 12
  · rw [if_pos h3]; simp
  rw [if_neg h3]
  by_cases h4 : c = 10
  · rw [if_pos h4]; simp
  rw [if_neg h4]
  by_cases h5 : c = 13
  · rw [if_pos h5]; simp
  rw [if_neg h5]
  by_cases h6 : c = 9
  · rw [if_pos h6]; simp
  rw [if_neg h6]; simp
theorem enc1_len (c : Int) : (enc1 c).length ≤ 6 := by
  unfold enc1
  by_cases h : must c = true
  · rw [if_pos h]; exact esc1_len c
  · rw [if_neg h]; simp
theorem enc_len (l : List Int) : (enc l).length ≤ 6 * l.length := by
  induction l with
  | nil => simp [enc]
  | cons c l ih => rw [enc_cons, List.length_append]; have := enc1_len c; simp; omega
theorem enc_plain (l : List Int) (h : ∀ c ∈ l, must c = false) : enc l = l := by
  induction l with
  | nil => rfl
  | cons c l ih =>
    rw [enc_cons, ih (fun d hd => h d (by simp [hd]))]
    unfold enc1; rw [if_neg (by rw [h c (by simp)]; simp)]; rfl

theorem bs_extract (s : ByteArray) (a b : Nat) : bs (s.extract a b) = ((bs s).drop a).take (b - a) := by
  simp [bs, ByteArray.data_extract, Array.toList_extract, List.extract_eq_take_drop, List.map_take, List.map_drop]

theorem bs_get (s : ByteArray) (k : Nat) (h : k < s.size) : (bs s).getD k 0 = ((s[k].toNat : Nat) : Int) := by
  have h' : k < s.data.toList.length := by simpa using h
  rw [bs, List.getD, List.getElem?_map, List.getElem?_eq_getElem h']
  rfl

/-- The run between 'run' and i bears no byte that must be escaped. -/
theorem enc_run (l : List Int) (r i : Nat) (hr : r ≤ i) (hi : i ≤ l.length) (h : ∀ j, r ≤ j → j < i → must (l.getD j 0) = false) : enc (l.take i) = enc (l.take r) ++ (l.drop r).take (i - r) := by
  have e : l.take i = l.take r ++ (l.drop r).take (i - r) := by
    rw [← List.take_add, show r + (i - r) = i from by omega]
  rw [e, enc_append, enc_plain ((l.drop r).take (i - r))]
  intro c hc
  obtain ⟨k, hk, rfl⟩ := List.mem_iff_getElem.1 hc
  simp only [List.length_take, List.length_drop] at hk
  have := h (r + k) (by omega) (by omega)
  rw [List.getElem_take, List.getElem_drop]
  simpa [List.getD, show r + k < l.length from by omega] using this

theorem enc_step (l : List Int) (r i : Nat) (hr : r ≤ i) (hi : i < l.length) (h : ∀ j, r ≤ j → j < i → must (l.getD j 0) = false) (hm : must (l.getD i 0) = true) :
    enc (l.take (i + 1)) = enc (l.take r) ++ (l.drop r).take (i - r) ++ esc1 (l.getD i 0) := by
  rw [List.take_succ_eq_append_getElem hi, enc_append, enc_run l r i hr (by omega) h]
  have e : l[i] = l.getD i 0 := by simp [List.getD, hi]
  rw [e, enc_cons, enc_nil]
  unfold enc1; rw [if_pos hm]; simp

theorem buf_eq {B : Nat} {v : Value} {xs ys : List Int} {W0 w : World} (h : Buf B v xs W0 w) (e : ys = xs) : Buf B v ys W0 w := e ▸ h

theorem w32 (u : UInt8) : wrap32 ((u.toNat : Nat) : Int) = ((u.toNat : Nat) : Int) := by
  have := u.toNat_lt
  unfold wrap32; omega

set_option maxHeartbeats 800000 in
theorem appendString_any (s : ByteArray) (w : World) (hs : s.size ≤ 1048576) :
    Calls Try.prog 32 #[.slice none 0 0, .string s] w fun e w' => ∃ v', e = .returned v' ∧ Buf w.heap.size v' ([34] ++ enc (bs s) ++ [34]) w w' := by
  go_enter Try.func32, Try.ntmps32
  go_wp2_with (at_builtin; refine buf_lit [34] rfl (.tmp 8) (.tmp 9) rfl w.heap.size (.slice none 0 0) [] w _ ((Buf.nil w).alloc _) rfl w.heap.size (heap_alloc_new w _) rfl (by simp) ?_; intro v1 w1 hb1)
  go_loopw [0, 5, 6] (fun v sr si wr => ∃ (i r : Nat), r ≤ i ∧ i ≤ s.size ∧ sr = .int .i64 r ∧ si = .int .i64 i ∧ Buf w.heap.size v ([34] ++ enc ((bs s).take r)) w wr ∧ (∀ j, r ≤ j → j < i → must ((bs s).getD j 0) = false))
    (fun _ _ si _ => s.size - (intOf si).toNat)
  case atStart => exact ⟨0, 0, Nat.le_refl _, Nat.zero_le _, rfl, rfl, by simpa [enc] using hb1, fun j h1 h2 => absurd h2 (Nat.not_lt_zero _)⟩
  case round =>
    rename_i v _ _
    obtain ⟨i, r, hri, his, rfl, rfl, hb, hrun⟩ := hrel
    have hl1 := enc_len ((bs s).take r)
    have hl2 : ((bs s).take r).length ≤ 1048576 := by rw [List.length_take]; omega
    have hl : ([34] ++ enc ((bs s).take r)).length ≤ 6291457 := by simp only [List.length_append, List.length_singleton]; omega
    by_cases hlt : i < s.size
    · have hg := bs_get s i hlt
      have HG : Hid ((bs s).getD i 0 = ((s[i].toNat : Nat) : Int)) := hg
      clear hg
      have HR : Hid (∀ j, r ≤ j → j < i → must ((bs s).getD j 0) = false) := hrun
      clear hrun hl1 hl2
      cases hm : must ((s[i].toNat : Nat) : Int) with
      | false =>
        have HM : Hid (must ((s[i].toNat : Nat) : Int) = false) := hm
        clear hm
        go_wp2_with (go_at_call 37; refine (must_false HM.out _).mono ?_; rintro e w' ⟨rfl, rfl⟩)
        go_roundw
        case rel =>
          refine ⟨i + 1, r, by omega, by omega, rfl, by go_num, hb, fun j h1 h2 => ?_⟩
          by_cases e : j = i
          · subst e; rw [HG.out]; exact HM.out
          · exact HR.out j h1 (by omega)
        case measure => simp [intOf]; omega
      | true =>
        have HM : Hid (must ((s[i].toNat : Nat) : Int) = true) := hm
        clear hm
        go_wp2_with (first
          | (go_at_call 37; refine (must_true HM.out _).mono ?_; rintro e w' ⟨rfl, rfl⟩)
          | (at_builtin; refine buf_str rfl (.tmp 23) (.tmp 27) rfl w.heap.size _ _ w _ hb rfl (s.extract r i) rfl ?_ ?_; (rw [ByteArray.size_extract]; omega); intro v2 w2 hb2)
          | (go_at_call 38; rw [w32 s[i]]; refine (esc_any _ ?_ HM.out w.heap.size v2 _ w _ hb2 ?_).mono ?_; omega; (simp only [List.length_append, bs_length, ByteArray.size_extract] at hl ⊢; omega); rintro e w3 ⟨v3, rfl, hb3⟩))
        go_roundw
        case rel =>
          refine ⟨i + 1, i + 1, by omega, by omega, by go_num, by go_num, ?_, fun j h1 h2 => by omega⟩
          have e := enc_step (bs s) r i hri (by rw [bs_length]; exact hlt) HR.out (by rw [HG.out]; exact HM.out)
          rw [HG.out] at e
          rw [e, ← bs_extract, ← List.append_assoc, ← List.append_assoc]
          exact hb3
        case measure => simp [intOf]; omega
    · have hi : i = s.size := by omega
      subst hi
      have e : enc (bs s) = enc ((bs s).take r) ++ bs (s.extract r s.size) := by
        rw [bs_extract, ← enc_run (bs s) r s.size hri (by rw [bs_length]; omega) hrun, List.take_of_length_le (by rw [bs_length]; omega)]
      have HE : Hid (enc (bs s) = enc ((bs s).take r) ++ bs (s.extract r s.size)) := e
      clear e hrun hl1 hl2
      go_wp2_with (first
        | (at_builtin; refine buf_str rfl (.tmp 34) (.tmp 37) rfl w.heap.size _ _ w _ hb rfl (s.extract r s.size) rfl ?_ ?_; (rw [ByteArray.size_extract]; omega); intro v2 w2 hb2)
        | (at_builtin; refine buf_lit [34] rfl (.tmp 39) (.tmp 40) rfl w.heap.size v2 _ w _ (hb2.alloc _) rfl w2.heap.size (heap_alloc_new w2 _) rfl ?_ ?_; (simp only [List.length_append, bs_length, ByteArray.size_extract, List.length_singleton] at hl ⊢; omega); intro v3 w3 hb3))
      go_ret
      exact ⟨_, rfl, buf_eq hb3 (by rw [HE.out]; simp)⟩

set_option maxHeartbeats 400000 in
theorem zzAppend_any (s : ByteArray) (w : World) (hs : s.size ≤ 1048576) :
    Calls Try.prog 23 #[.slice none 0 0, .string s] w fun e w' => ∃ v', e = .returned v' ∧ Buf w.heap.size v' ([34] ++ enc (bs s) ++ [34]) w w' := by
  go_enter Try.func23, Try.ntmps23
  go_wp2_with (go_at_call 32; refine (appendString_any s w hs).mono ?_; rintro e w1 ⟨v1, rfl, hb1⟩)
  go_ret
  exact ⟨_, rfl, buf_eq hb1 (by simp)⟩
end Go.Proofs.Qxb6000609a
