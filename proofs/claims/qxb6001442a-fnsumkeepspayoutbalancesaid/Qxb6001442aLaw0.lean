import Derived.Test.Qxb6001442aSum2
namespace Go.Proofs.Qxb6001442a
open Go.RowKit

theorem size23 : (Try.prog.info? 23).map (·.size) = some 5 := by kernel_rfl

theorem line_of {w : World} {L o : Nat} {a b c : ByteArray} {u p i g y : Int} (h : w.rangeAt L o (lineC a b c u p i g y)) (hb : Bal p i g y) : LineAt w L o :=
  ⟨u, p, i, g, y, h 3 _ rfl, h 5 _ rfl, h 6 _ rfl, h 7 _ rfl, h 8 _ rfl, hb⟩

theorem there_of_new (w : World) (Z : Array Value) (t : TypeId) (n o m : Nat) (hn : n = w.heap.size) (h : o + m ≤ Z.size) : (w.alloc (.cells Z t)).there n o m := by
  intro j hj
  rw [World.cell?_alloc_at _ _ _ _ hn, World.frozen?_alloc_at _ _ _ _ hn]
  exact ⟨by rw [Array.getElem?_eq_getElem (by omega)]; rfl, rfl⟩

/-- A line stored into a block of its own. -/
theorem store_line {ops : Array Oper} {rest : List Oper} {op : Oper} {a : Act} {w : World} {Q : Exit → Act → World → Prop} (hgd : op.guard = none) (x y : Operand) (ho : op.op = .store 33 x y)
    (B : Nat) (s1 s2 s3 : ByteArray) (u p i g v : Int) (hx : a.eval x = .pointer (some ⟨B, 0, none⟩)) (hy : a.eval y = .agg (lineC s1 s2 s3 u p i g v).toArray) (ht : w.there B 0 9)
    (h : ∀ w', w'.rangeAt B 0 (lineC s1 s2 s3 u p i g v) → (∀ C a0, C ≤ B → Below C a0 w → Below C a0 w') → wpList Try.prog ops Q rest (a.put op.dst undef) w') :
    wpList Try.prog ops Q (op :: rest) a w := by
  refine wpList_store_mid hgd 33 x y ho B 0 (lineC s1 s2 s3 u p i g v).toArray hx hy ht size33 (lineC_one _ _ _ _ _ _ _ _) ?_
  exact h _ (World.rangeAt_setCells_same _ _ _ _ ht) (fun C a0 hC hb => below_setCells B hC _ _ _ hb)

/-- zzCloneInts of a slice of whatever length. -/
theorem clone_any (a : Option Addr) (len cap : Nat) (zs : List Int) (w : World) (h : IsRow .i64 w a len cap zs) (hlen : len ≤ 131072) :
    Calls Try.prog 6 #[.slice a len cap] w fun e w' => (∃ a', e = .returned (.slice a' len len)) ∧ Below w.heap.size w w' := by
  by_cases h0 : len = 0
  · subst h0; exact clone_zero a cap zs w h
  · refine (clone_pos a len cap zs w h (by omega) hlen).mono ?_
    rintro e w' ⟨rfl, hb, _⟩
    exact ⟨⟨_, rfl⟩, hb⟩

theorem row_below {w w' : World} {a : Option Addr} {len cap : Nat} {zs : List Int} (h : IsRow .i64 w a len cap zs) (hb : Below w.heap.size w w') : IsRow .i64 w' a len cap zs := by
  rcases h with h | ⟨x, rfl, hl, hm, hz, hcell, hwf⟩
  · exact .inl h
  · exact .inr ⟨x, rfl, hl, hm, hz, fun i hi => by
      have hc := hcell i hi
      have hlt := World.block_lt_of_cell? w _ hc
      rw [hb.cell hlt]; exact hc, hwf⟩

theorem bal_true {P I G Y : Int} (h : Bal P I G Y) : (wrap64 (wrap64 (P + I) + G) == Y) = true := by unfold Bal at h; simp [h]
theorem bal_ne {P I G Y : Int} (h : Bal P I G Y) : (wrap64 (wrap64 (P + I) + G) != Y) = false := by unfold Bal at h; simp [h]
theorem bal_bad {P I G Y : Int} (h : ¬ Bal P I G Y) : (wrap64 (wrap64 (P + I) + G) != Y) = true := by unfold Bal at h; simp [h]
end Go.Proofs.Qxb6001442a
