import Derived.Test.Qxb6000609aBase
import Derived.Lib.AppendStr
import Derived.Deep.AppendLies
import Derived.Deep.RegionLaw
import Derived.Deep.Draws
namespace Go.Proofs.Qxb6000609a
open Go.RowKit

/-- The slice v owns the bytes xs, in a block from B on; below B nothing has turned since W0. -/
def Buf (B : Nat) (v : Value) (xs : List Int) (W0 w : World) : Prop :=
  w.ownsRow B 5 1 v xs.length (xs.map (Value.int .u8)) ∧ Below B W0 w ∧ B ≤ w.heap.size

/-- A string's bytes as numbers. -/
def bs (s : ByteArray) : List Int := s.data.toList.map fun b => (b.toNat : Int)
theorem bs_length (s : ByteArray) : (bs s).length = s.size := by rw [bs, List.length_map, Array.length_toList]; rfl
theorem strCells_bs (s : ByteArray) : Lib.strCells s = (bs s).map (Value.int .u8) := by simp [Lib.strCells, bs]

theorem Buf.nil (w : World) : Buf w.heap.size (.slice none 0 0) [] w w := ⟨World.ownsRow_nil _ _ _ _, Below.refl _ _, Nat.le_refl _⟩

theorem Buf.grown {B : Nat} {v v' : Value} {xs xs' : List Int} {W0 w w' : World} (h : Buf B v xs W0 w) (ho : w'.ownsRow B 5 1 v' xs'.length (xs'.map (Value.int .u8))) (hg : w.grownBy w' v.ownBlock) : Buf B v' xs' W0 w' :=
  ⟨ho, h.2.1.grown hg h.2.2 (fun k hk => (h.1.lt k hk).1), Nat.le_trans h.2.2 hg.size⟩
theorem Buf.alloc {B : Nat} {v : Value} {xs : List Int} {W0 w : World} (h : Buf B v xs W0 w) (o : Obj) : Buf B v xs W0 (w.alloc o) :=
  ⟨h.1.alloc o, h.2.1.alloc h.2.2 o, Nat.le_trans h.2.2 ((Below.refl 0 w).alloc (Nat.zero_le _) o).size⟩
theorem Buf.drewN {B : Nat} {v : Value} {xs : List Int} {W0 w : World} (h : Buf B v xs W0 w) (q : Nat) : Buf B v xs W0 (w.drewN q) :=
  ⟨h.1, ⟨h.2.1.os, h.2.1.tape, h.2.1.output, h.2.1.size, h.2.1.block⟩, h.2.2⟩

theorem lit_news {w : World} {g : Nat} {cs : List Int} (hg : w.heap[g]? = some (.cells (cs.map (Value.int .u8)).toArray 5 (0, 0))) :
    ∀ j u, (cs.map (Value.int .u8))[j]? = some u → w.cell? ((⟨g, 0, none⟩ : Addr).add j) = some u := by
  have := World.news_of_block hg
  simpa using this

/-- 'append(b, c0, c1, ..)': the new bytes lie in the block that the statement has just laid. -/
theorem buf_lit {ops : Array Oper} {rest : List Oper} {o : Oper} {a : Act} {Q : Exit → Act → World → Prop} (cs : List Int) (hgd : o.guard = none) (s x : Operand)
    (ho : o.op = .call { callee := .builtin .append, args := #[s, x], argTypes := #[22, 22] })
    (B : Nat) (v : Value) (xs : List Int) (W0 w : World) (hb : Buf B v xs W0 w) (hs : a.eval s = v) (g : Nat) (hg : w.heap[g]? = some (.cells (cs.map (Value.int .u8)).toArray 5 (0, 0)))
    (hx : a.eval x = .slice (some ⟨g, 0, none⟩) cs.length cs.length) (hlen : xs.length + cs.length ≤ 100000000)
    (h : ∀ v' w', Buf B v' (xs ++ cs) W0 w' → wpList Try.prog ops Q rest (a.put o.dst v') w') : wpList Try.prog ops Q (o :: rest) a w := by
  obtain ⟨i0, hi, hz0, hz1, hz2⟩ := info_parts info5
  refine wpList_append_own _ hgd s x 22 ho B 5 i0 (.int .u8 0) 1 1 Try.underlying22 hi hz0 hz1 hz2 rfl (by decide) v xs.length (xs.map (Value.int .u8)) hs hb.1 ⟨g, 0, none⟩ cs.length cs.length (cs.map (Value.int .u8)) hx (by simp) (lit_news hg) (ints_oneCell _ _) (by unfold maxLen; omega) (by omega) hb.2.2 ?_
  intro v' w' ho' hg' _
  exact h v' w' (hb.grown (by simpa using ho') hg')

/-- 'append(b, s...)', s a string. -/
theorem buf_str {ops : Array Oper} {rest : List Oper} {o : Oper} {a : Act} {Q : Exit → Act → World → Prop} (hgd : o.guard = none) (sl x : Operand)
    (ho : o.op = .call { callee := .builtin .append, args := #[sl, x], argTypes := #[22, 9] })
    (B : Nat) (v : Value) (xs : List Int) (W0 w : World) (hb : Buf B v xs W0 w) (hs : a.eval sl = v) (s : ByteArray) (hx : a.eval x = .string s) (hlen : xs.length + s.size ≤ 100000000)
    (h : ∀ v' w', Buf B v' (xs ++ bs s) W0 w' → wpList Try.prog ops Q rest (a.put o.dst v') w') : wpList Try.prog ops Q (o :: rest) a w := by
  obtain ⟨i0, hi, hz0, hz1, hz2⟩ := info_parts info5
  refine Lib.wpList_append_own_string w hgd sl x 22 9 ho B 5 i0 Try.underlying22 Try.underlying9 hi hz0 hz1 hz2 v xs.length (xs.map (Value.int .u8)) hs hb.1 s hx (by unfold maxLen; omega) (by omega) hb.2.2 ?_
  intro v' w' ho' hg' _
  exact h v' w' (hb.grown (by rw [List.length_append, bs_length, List.map_append, ← strCells_bs]; exact ho') hg')

/-- The same at a step of a region that draws its order. -/
theorem buf_lit_step {ops : Array Oper} {o : Oper} {a : Act} {K : Act → World → Prop} {Q : Exit → Act → World → Prop} {E : Prop} (cs : List Int) (hgd : o.guard = none) (s x : Operand)
    (ho : o.op = .call { callee := .builtin .append, args := #[s, x], argTypes := #[22, 22] })
    (B : Nat) (v : Value) (xs : List Int) (W0 w : World) (hb : Buf B v xs W0 w) (hs : a.eval s = v) (g : Nat) (hg : w.heap[g]? = some (.cells (cs.map (Value.int .u8)).toArray 5 (0, 0)))
    (hx : a.eval x = .slice (some ⟨g, 0, none⟩) cs.length cs.length) (hlen : xs.length + cs.length ≤ 100000000)
    (h : ∀ v' w', Buf B v' (xs ++ cs) W0 w' → K (a.put o.dst v') w') :
    if Region.wanted o (yielded ops a.tmps) = true then Oper.wp Try.prog o a w K Q else E := by
  have hw : Region.wanted o (yielded ops a.tmps) = true := by simp [Region.wanted, hgd]
  rw [if_pos hw]
  obtain ⟨i0, hi, hz0, hz1, hz2⟩ := info_parts info5
  refine wp_append_own _ s x 22 ho B 5 i0 (.int .u8 0) 1 1 Try.underlying22 hi hz0 hz1 hz2 rfl (by decide) v xs.length (xs.map (Value.int .u8)) hs hb.1 ⟨g, 0, none⟩ cs.length cs.length (cs.map (Value.int .u8)) hx (by simp) (lit_news hg) (ints_oneCell _ _) (by unfold maxLen; omega) (by omega) hb.2.2 ?_
  intro v' w' ho' hg' _
  exact h v' w' (hb.grown (by simpa using ho') hg')
end Go.Proofs.Qxb6000609a
