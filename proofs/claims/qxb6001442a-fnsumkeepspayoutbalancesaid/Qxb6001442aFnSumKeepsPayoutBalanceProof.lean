/-
  The proof of 'Rows.FnSumKeepsPayoutBalanceSaid': the frame after the guide's own (howto/template), an array among the parameters; the walk stands in Qxb6001442aLawW.
-/
import Derived.Test.Qxb6001442aRows
import Derived.Test.Qxb6001442aLawW
import Derived.Test.Qxb6001442aOpenArr
import Derived.Test.Qxb6001442aHead
import Derived.WalkKit
import Derived.ProofKit
import Derived.OpenShut
import Derived.ChangeOld
import Derived.Below
namespace Go.Proofs.Qxb6001442a.fnSumKeepsPayoutBalance
open Go.ChangeShapes Go.WideShapes Go.ChangeAt Go.RowKit
set_option linter.unusedVariables false

theorem own : ownKnob Try.prog.godebug = none := by kernel_rfl
theorem laidOut : laidOutB Try.prog = true := by kernel_rfl

set_option maxRecDepth 100000 in
theorem lifted (os : Os) (started : os.Started) (H : Type) (enc : TypeId × Value → H) :
    ReturnsInHanded {} Try.checked os 4 .any (Rows.fnSumKeepsPayoutBalanceSpec.pre6 enc Try.prog Try.f4 Rows.fnSumKeepsPayoutBalanceRow.domain false) (Rows.fnSumKeepsPayoutBalanceSpec.post enc Try.prog Try.f4 false true false false) := by
  refine returnsInHanded_of_change (C := Try.checked) own started (by kernel_rfl) Try.func4
    (ChangeSpec.witness6 (enc := enc) (C := Try.checked) false ⟨#[], #[.slice none 0 0, .bool false, .agg #[.int .i64 0, .int .i64 0, .int .i64 0, .int .i64 0, .int .i64 0]], []⟩ 8 (by kernel_rfl) (by kernel_rfl) (by kernel_rfl) (by kernel_rfl)) ?_
  intro W base args ds gs before hval0 hW hcnd _
  have hval : ∀ (j : Nat) t v, Try.f4.params[j]? = some t → args[j]? = some v → Value.okWide Try.prog W .any base t v := hval0
  have hW' := hW
  obtain ⟨p, q, hA0, hV, rfl, hfz, hnd⟩ := hW
  have hA : DataW.TrodAll enc Try.prog W 0 (fun _ => true) true Try.f4.params.toList args.toList ds p := hA0
  rw [Try.params4] at hA hval
  obtain ⟨v0, vs0, d0, ds0, p0, q0, hargs, rfl, rfl, h0, r0⟩ := trodAll_cons hA
  obtain ⟨v1, vs1, d1, ds1, p1, q1, rfl, rfl, rfl, h1, r1⟩ := trodAll_cons r0
  obtain ⟨v2, vs2, d2, ds2, p2, q2, rfl, rfl, rfl, h2, r2⟩ := trodAll_cons r1
  obtain ⟨rfl, rfl, rfl⟩ := trodAll_nil r2
  obtain rfl : args = #[v0, v1, v2] := by cases args; simp_all
  obtain ⟨rfl, rfl⟩ := trodVars_none hV
  obtain ⟨a0, len0, cap0, rfl⟩ := okWide_slice Try.underlying22 (hval 0 22 v0 rfl rfl)
  have k0 := h0
  have lt0 : ∀ x ∈ p0, x.block < W.heap.size := by obtain ⟨m, hm⟩ := k0; exact DataW.trod_lt m _ _ _ hm
  obtain ⟨z0, w0⟩ : ∃ zs, IsRow .i64 W a0 len0 cap0 zs := by
    obtain ⟨fuel, hf⟩ := h0
    rcases open_ints Try.underlying22 Try.underlying2 (by kernel_rfl) hf with ⟨hcs, _⟩ | ⟨x, l, c, zs, hcs, _, hl, hm, hz, _, hcell, hwz⟩
    · simp [Value.cells] at hcs
      obtain ⟨rfl, rfl, rfl⟩ := hcs
      exact ⟨[], .inl ⟨rfl, rfl, rfl, rfl⟩⟩
    · simp [Value.cells] at hcs
      obtain ⟨rfl, rfl, rfl⟩ := hcs
      exact ⟨zs, .inr ⟨_, rfl, hl, hm, by simpa using hz, hcell, hwz⟩⟩
  obtain ⟨a1, rfl, rfl, rfl⟩ := open_bool Try.underlying4 (hval 1 4 v1 rfl rfl) h1
  have k2 := h2
  have lt2 : ∀ x ∈ p2, x.block < W.heap.size := by obtain ⟨m, hm⟩ := k2; exact DataW.trod_lt m _ _ _ hm
  obtain ⟨f, hv2, hwf⟩ := open_arr Try.underlying23 Try.underlying2 (by kernel_rfl) (by kernel_rfl) (hval 2 23 v2 rfl rfl) h2
  clear hA0 hval0
  subst hv2
  refine (walk a0 len0 cap0 z0 a1 (f 0) (f 1) (f 2) (f 3) (f 4) W w0).mono fun e W' ⟨he, bel⟩ => ?_
  subst he
  exact ⟨_, rfl, _, _, _, [], _, [], hW', trodAll_mk1 (shut_bool Try.underlying4 _), (trodAll_cons_mk (Below.trod laidOut (by kernel_rfl) (of_decide_eq_true (by kernel_rfl)) k0 bel lt0) (trodAll_cons_mk (shut_bool Try.underlying4 _) (trodAll_cons_mk (Below.trod laidOut (by kernel_rfl) (of_decide_eq_true (by kernel_rfl)) k2 bel lt2) trodAll_mk0))), rfl, bel.frame _, fun h => by cases h⟩

/-! ### The row's closed facts, one by one -/
theorem k1 : (Rows.fnSumKeepsPayoutBalanceRow.wf (OpenSpec.ofChange Rows.fnSumKeepsPayoutBalanceSpec)) = true := by kernel_rfl
theorem k2 : (laidOutB Try.prog) = true := by kernel_rfl
theorem k3 : (mapsRowed Try.prog) = true := by kernel_rfl
theorem k4 : (Try.f4.params.all (Try.prog.readableRec ·)) = true := by kernel_rfl
theorem k5 : (namedTie Try.prog Rows.fnSumKeepsPayoutBalanceRow.named Rows.fnSumKeepsPayoutBalanceSpec.vars) = true := by kernel_rfl
theorem k6 : ((Rows.fnSumKeepsPayoutBalanceRow.stops == [])) = true := by kernel_rfl
theorem k7 : ((Try.prog.stops == [])) = true := by kernel_rfl
theorem k8 : ((Rows.fnSumKeepsPayoutBalanceRow.knobs == [])) = true := by kernel_rfl
theorem k9 : ((Try.prog.stopKnobs == [])) = true := by kernel_rfl
theorem k10 : ((Rows.fnSumKeepsPayoutBalanceRow.inPlace == Try.prog.inPlace 4)) = true := by kernel_rfl
theorem k11 : ((Rows.fnSumKeepsPayoutBalanceRow.unfollowed == Try.prog.unfollowed 4)) = true := by kernel_rfl
theorem k12 : ((Rows.fnSumKeepsPayoutBalanceRow.recurses == Try.prog.recurses 4)) = true := by kernel_rfl
theorem k13 : ((Rows.fnSumKeepsPayoutBalanceRow.named == Try.prog.varsNamed 4)) = true := by kernel_rfl
theorem k14 : ((Rows.fnSumKeepsPayoutBalanceRow.maps == (Try.f4.params.toList ++ Rows.fnSumKeepsPayoutBalanceSpec.plain.varTypes Try.prog).any (Try.prog.mapsRec ·))) = true := by kernel_rfl
theorem k15 : ((Rows.fnSumKeepsPayoutBalanceRow.ifaces == (Try.f4.params.toList ++ Rows.fnSumKeepsPayoutBalanceSpec.plain.varTypes Try.prog).any (Try.prog.ifacesRec ·))) = true := by kernel_rfl
theorem k16 : ((Rows.fnSumKeepsPayoutBalanceRow.mapsOut == Try.prog.mapsAmong Try.f4.resultTypes.toList)) = true := by kernel_rfl
theorem k17 : ((Rows.fnSumKeepsPayoutBalanceRow.loops == (Try.f4.params.toList ++ Rows.fnSumKeepsPayoutBalanceSpec.plain.varTypes Try.prog).any (Try.prog.loopsFrom ·))) = true := by kernel_rfl
theorem k18 : ((Rows.fnSumKeepsPayoutBalanceRow.wideKeys == (Try.f4.params.toList ++ Rows.fnSumKeepsPayoutBalanceSpec.plain.varTypes Try.prog ++ Try.f4.resultTypes.toList).any (Try.prog.wideKeysFrom ·))) = true := by kernel_rfl
theorem k19 : (Rows.fnSumKeepsPayoutBalanceSpec.vars.all (Try.prog.varReadable ·)) = true := by kernel_rfl
theorem k20 : (Try.f4.resultTypes.all (fun t => Try.prog.readableRec t && decide (t < Try.prog.types.size))) = true := by kernel_rfl
theorem k21 : ((Rows.fnSumKeepsPayoutBalanceRow.ifacesOut == Try.f4.resultTypes.toList.any (Try.prog.ifacesRec ·))) = true := by kernel_rfl
theorem k22 : ((Rows.fnSumKeepsPayoutBalanceRow.loopsOut == Try.f4.resultTypes.toList.any (Try.prog.loopsFrom ·))) = true := by kernel_rfl
theorem k23 : ((Rows.fnSumKeepsPayoutBalanceRow.plainKeys == Try.prog.plainKeys)) = true := by kernel_rfl
theorem k24 : (Rows.fnSumKeepsPayoutBalanceRow.shortTexts.isNone) = true := by kernel_rfl
theorem k25 : (Try.prog.stopsHeard) = true := by kernel_rfl
theorem k26 : (Try.prog.mayEnter) = true := may_enter
theorem k27 : ((Rows.fnSumKeepsPayoutBalanceRow.lifted == Try.prog.liftsFinal)) = true := by rw [lifts_final]; rfl
theorem k28 : ((Try.prog.make == some Rows.fnSumKeepsPayoutBalanceRow.make)) = true := by rw [make_is]; rfl
theorem k29 : ((Rows.fnSumKeepsPayoutBalanceRow.kinds == (if Rows.fnSumKeepsPayoutBalanceRow.domain.isEmpty then [] else Try.f4.params.toList.map fun t => match Try.prog.underlying t with | some (.int k) => some k | _ => none))) = true := by kernel_rfl
theorem k30 : ((Rows.fnSumKeepsPayoutBalanceRow.pinned == Rows.fnSumKeepsPayoutBalanceRow.pinnedBy)) = true := by kernel_rfl
theorem k31 : ((Rows.fnSumKeepsPayoutBalanceRow.veiled == (Try.f4.params.toList ++ Rows.fnSumKeepsPayoutBalanceSpec.plain.varTypes Try.prog ++ Try.f4.resultTypes.toList).any (Try.prog.veiledRec ·))) = true := by kernel_rfl
theorem k32 : (Rows.fnSumKeepsPayoutBalanceRow.veiledFits Try.prog Try.f4.params.toList (Try.f4.params.toList ++ Rows.fnSumKeepsPayoutBalanceSpec.plain.varTypes Try.prog ++ Try.f4.resultTypes.toList)) = true := by kernel_rfl
theorem closed : joinedFacts Try.prog 4 Try.f4 Rows.fnSumKeepsPayoutBalanceSpec Rows.fnSumKeepsPayoutBalanceRow = true :=
  both (both (both (both (both (both (both (both (both (both (both (both (both (both (both (both (both (both (both (both (both (both (both (both (both (both (both (both (both (both (both k1 k2) k3) k4) k5) k6) k7) k8) k9) k10) k11) k12) k13) k14) k15) k16) k17) k18) k19) k20) k21) k22) k23) k24) k25) k26) k27) k28) k29) k30) k31) k32

theorem over : Rows.fnSumKeepsPayoutBalanceRow.holds Try.pinned (OpenSpec.ofChange Rows.fnSumKeepsPayoutBalanceSpec) :=
  OpenClaim.holds_of_wide 4 Try.f4 rfl rfl rfl rfl rfl rfl rfl ⟨rfl, rfl, rfl, rfl, rfl⟩ rfl rfl rfl rfl rfl (by kernel_rfl) Try.func4 closed
    (of_decide_eq_true (by kernel_rfl)) (by unfold Func.isWrapper; first | (rw [if_pos (by decide +kernel)]; kernel_rfl) | (rw [if_neg (by decide +kernel)]; exact ⟨rfl, rfl⟩))
    (fun os started H enc _ => lifted os started H enc)

/-- The statement. -/
theorem proved : Rows.FnSumKeepsPayoutBalanceSaid := over
end Go.Proofs.Qxb6001442a.fnSumKeepsPayoutBalance
