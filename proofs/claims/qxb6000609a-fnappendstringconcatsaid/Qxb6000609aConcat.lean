import Derived.Test.Qxb6000609aRound0
import Derived.Deep.QuietTactic
import Derived.BigQuiet
namespace Go.Proofs.Qxb6000609a
open Go.RowKit

set_option maxHeartbeats 800000 in
/-- bytesEq of two slices with the same bytes. -/
theorem bytesEq_same (ga oa ca gb ob cb n : Nat) (f : Nat → Int) (w : World) (hn : n ≤ 100000000)
    (ha : ∀ i, i < n → w.cell? ⟨ga, oa + i, none⟩ = some (.int .u8 (f i))) (hb : ∀ i, i < n → w.cell? ⟨gb, ob + i, none⟩ = some (.int .u8 (f i))) :
    Calls Try.prog 26 #[.slice (some ⟨ga, oa, none⟩) n ca, .slice (some ⟨gb, ob, none⟩) n cb] w fun e w' => e = .returned (.bool true) ∧ ∃ q, w' = w.drewN q := by
  have HA : Hid (∀ i, i < n → w.cell? ⟨ga, oa + i, none⟩ = some (.int .u8 (f i))) := ha
  have HB : Hid (∀ i, i < n → w.cell? ⟨gb, ob + i, none⟩ = some (.int .u8 (f i))) := hb
  clear ha hb
  go_enter Try.func26, Try.ntmps26
  go_wp2
  go_loopw [5] (fun si wx => ∃ (k q : Nat), k ≤ n ∧ si = .int .i64 k ∧ wx = w.drewN q) (fun si _ => n - (intOf si).toNat)
  case atStart => exact ⟨0, 0, Nat.zero_le _, rfl, rfl⟩
  case round =>
    obtain ⟨k, q, hk, rfl, rfl⟩ := hrel
    by_cases hks : k < n
    · have h1 := HA.out k hks
      have h2 := HB.out k hks
      have hki : (k : Int) < (n : Int) := by omega
      go_wp2
      go_quiet (fail)
      go_wp2
      go_roundw
      case rel => exact ⟨k + 1, _, by omega, by go_num, rfl⟩
      case measure => simp [intOf]; omega
    · go_wp2
      go_ret
      exact ⟨rfl, _, rfl⟩

/-- A callee's contract in a quiet region behind an earlier draw. -/
theorem quiet_more {P : Program} {f : FuncId} {args : Array Value} {w : World} {k n : Nat} {v : Value} (h : Calls P f args (w.drewN (k + n)) fun e w' => e = .returned v ∧ ∃ m, w' = (w.drewN (k + n)).drewN m) :
    Calls P f args (w.drewN (k + n)) fun e w'' => e = .returned v ∧ ∃ m, w'' = w.drewN (k + m) :=
  h.mono fun _ _ ⟨he, m, hm⟩ => ⟨he, n + m, by rw [hm, World.drewN_drewN, Nat.add_assoc]⟩

theorem bytesEq_two (ga oa ca gb ob cb m n : Nat) (f : Nat → Int) (w : World) (hn : n ≤ 100000000) (e : m = n)
    (ha : ∀ i, i < n → w.cell? ⟨ga, oa + i, none⟩ = some (.int .u8 (f i))) (hb : ∀ i, i < n → w.cell? ⟨gb, ob + i, none⟩ = some (.int .u8 (f i))) :
    Calls Try.prog 26 #[.slice (some ⟨ga, oa, none⟩) m ca, .slice (some ⟨gb, ob, none⟩) n cb] w fun e w' => e = .returned (.bool true) ∧ ∃ q, w' = w.drewN q := by
  subst e; exact bytesEq_same ga oa ca gb ob cb m f w hn ha hb

theorem bs_append (s t : ByteArray) : bs (s ++ t) = bs s ++ bs t := by
  simp [bs, ByteArray.data_append]
theorem getD_left (a b : List Int) (i : Nat) (h : i < a.length) : (a ++ b).getD i 0 = a.getD i 0 := by
  rw [List.getD, List.getD, List.getElem?_append_left h]
theorem getD_right (a b : List Int) (n i : Nat) (h : n = a.length) : (a ++ b).getD (n + i) 0 = b.getD i 0 := by
  subst h
  rw [List.getD, List.getD, List.getElem?_append_right (by omega), Nat.add_sub_cancel_left]
theorem jstr_left (l m : List Int) (i : Nat) (h : i < (enc l).length + 1) : (jstr (l ++ m)).getD i 0 = (jstr l).getD i 0 := by
  have hq : (([34] : List Int) ++ enc l).length = (enc l).length + 1 := by simp
  have e1 : jstr (l ++ m) = ([34] ++ enc l) ++ (enc m ++ [34]) := by unfold jstr; rw [enc_append]; simp
  rw [e1, getD_left _ _ _ (by omega)]
  exact (getD_left _ _ _ (by omega)).symm
theorem jstr_right (l m : List Int) (i : Nat) : (jstr (l ++ m)).getD ((enc l).length + 1 + i) 0 = (jstr m).getD (1 + i) 0 := by
  have hq : (([34] : List Int) ++ enc l).length = (enc l).length + 1 := by simp
  have e1 : jstr (l ++ m) = ([34] ++ enc l) ++ (enc m ++ [34]) := by unfold jstr; rw [enc_append]; simp
  have e2 : jstr m = [34] ++ (enc m ++ [34]) := by unfold jstr; simp
  rw [e1, e2, getD_right _ _ _ _ hq.symm]
  exact (getD_right [34] (enc m ++ [34]) 1 i rfl).symm
end Go.Proofs.Qxb6000609a
namespace Go.Proofs.Qxb6000609a.fnAppendStringConcat
open Go.RowKit

set_option maxRecDepth 100000 in
theorem law_long (s t : ByteArray) (w : World) (hs : s.size ≤ maxLen) (ht : t.size ≤ maxLen) (h : 1048576 < s.size + t.size) :
    Calls Try.prog 10 #[.string s, .string t] w fun e w' => e = .returned (.bool true) ∧ Below w.heap.size w w' := by
  unfold maxLen at hs ht
  by_cases h1 : 1048576 < s.size
  · go_enter Try.func10, Try.ntmps10
    go_wp2
    go_ret
    exact ⟨rfl, Below.refl _ _⟩
  by_cases h2 : 1048576 < t.size
  · go_enter Try.func10, Try.ntmps10
    go_wp2
    go_ret
    exact ⟨rfl, Below.refl _ _⟩
  go_enter Try.func10, Try.ntmps10
  go_wp2
  go_ret
  exact ⟨rfl, Below.refl _ _⟩

set_option maxRecDepth 100000 in
set_option maxHeartbeats 1600000 in
theorem law_in (s t : ByteArray) (w : World) (h : s.size + t.size ≤ 1048576) :
    Calls Try.prog 10 #[.string s, .string t] w fun e w' => e = .returned (.bool true) ∧ Below w.heap.size w w' := by
  have hs : s.size ≤ 1048576 := by omega
  have ht : t.size ≤ 1048576 := by omega
  go_enter Try.func10, Try.ntmps10
  go_wp2_with (first
    | (go_at_call 27; go_in))
  refine (zzAppend_form (s ++ t) _ (by rw [ByteArray.size_append]; exact h)).mono ?_
  rintro e w1 ⟨gw, Nw, cw, rfl, hgw1, hgw2, hNw2, hNw, hcw, HNw, HCw, hb1⟩
  go_wp2_with fail
  refine (zzAppend_form s _ hs).mono ?_
  rintro e w2 ⟨ga, Na, ca, rfl, hga1, hga2, hNa2, hNa, hca, HNa, HCa, hb2⟩
  go_wp2_with fail
  refine (zzAppend_form t _ ht).mono ?_
  rintro e w3 ⟨gc, Nc, cc, rfl, hgc1, hgc2, hNc2, hNc, hcc, HNc, HCc, hb3⟩
  have hsum : Nw + 2 = Na + Nc := by
    rw [HNw.out, HNa.out, HNc.out, bs_append, enc_append, List.length_append]; omega
  have hs1 : (Nw : Int) ≤ (Na : Int) - 1 + (Nc : Int) - 1 := by omega
  have hs2 : (Na : Int) - 1 + (Nc : Int) - 1 ≤ (Nw : Int) := by omega
  have HA : Hid (∀ i, i < Na - 1 → w3.cell? ⟨gw, 0 + i, none⟩ = some (.int .u8 ((jstr (bs s)).getD i 0)) ∧ w3.cell? ⟨ga, 0 + i, none⟩ = some (.int .u8 ((jstr (bs s)).getD i 0))) := by
    intro i hi
    rw [Nat.zero_add]
    refine ⟨?_, (hb3.cell (by exact hga2)).trans (HCa.out i (by omega))⟩
    rw [hb3.cell (by exact Nat.lt_of_lt_of_le hgw2 hb2.size), hb2.cell (by exact hgw2), HCw.out i (by omega), bs_append, jstr_left _ _ _ (by rw [HNa.out] at hi; omega)]
  have HB : Hid (∀ i, i < Nc - 1 → w3.cell? ⟨gw, Na - 1 + i, none⟩ = some (.int .u8 ((jstr (bs t)).getD (1 + i) 0)) ∧ w3.cell? ⟨gc, 1 + i, none⟩ = some (.int .u8 ((jstr (bs t)).getD (1 + i) 0))) := by
    intro i hi
    refine ⟨?_, HCc.out (1 + i) (by omega)⟩
    rw [hb3.cell (by exact Nat.lt_of_lt_of_le hgw2 hb2.size), hb2.cell (by exact hgw2), HCw.out (Na - 1 + i) (by omega), bs_append, show Na - 1 + i = (enc (bs s)).length + 1 + i from by rw [HNa.out]; omega, jstr_right]
  have hbel : Below w.heap.size w w3 := (hb1.trans (hb2.mono hb1.size)).trans (hb3.mono (Nat.le_trans hb1.size hb2.size))
  have f1 : ¬ cw = Na - 1 := by omega
  have f2 : ¬ cc = 1 := by omega
  have f3 : (Na : Int) - 1 ≤ (Nw : Int) := by omega
  have f4 : (1 : Int) ≤ (Nc : Int) := by omega
  have f5 : (0 : Int) ≤ (Na : Int) - 1 := by omega
  have HE : Hid (Nw - (Na - 1) = Nc - 1) := by show Nw - (Na - 1) = Nc - 1; omega
  clear hsum
  go_wp2
  go_quiet ((go_at_call 26; refine Calls.quiet_of (bytesEq_same gw 0 _ ga 0 _ (Na - 1) (fun i => (jstr (bs s)).getD i 0) _ (by omega) (fun i hi => (HA.out i hi).1) (fun i hi => (HA.out i hi).2))))
  go_wp2
  go_quiet ((go_at_call 26; refine quiet_more (bytesEq_two gw (Na - 1) _ gc 1 _ _ (Nc - 1) (fun i => (jstr (bs t)).getD (1 + i) 0) _ (by omega) HE.out (fun i hi => (HB.out i hi).1) (fun i hi => (HB.out i hi).2))))
  go_wp2
  go_ret
  exact ⟨rfl, hbel.trans ⟨rfl, rfl, rfl, Nat.le_refl _, fun _ _ => rfl⟩⟩

theorem walk (a0 : ByteArray) (a1 : ByteArray) (w0 : a0.size ≤ maxLen) (w1 : a1.size ≤ maxLen) (w : World) :
    Calls Try.prog 10 #[.string a0, .string a1] w fun e w' => e = .returned (.bool true) ∧ Below w.heap.size w w' := by
  rcases Nat.lt_or_ge 1048576 (a0.size + a1.size) with h | h
  · exact law_long a0 a1 w w0 w1 h
  · exact law_in a0 a1 w h
end Go.Proofs.Qxb6000609a.fnAppendStringConcat
