/-
  The proof of 'Rows.FnInPlayAddWholeSpecSaid': the frame after the guide's own (howto/template), an array among the parameters; the walk stands in Qxb6601249aWhole.
-/
import Derived.Test.Qxb6601249aRows
import Derived.Test.Qxb6601249aWhole
import Derived.Test.Qxb6601249aOpenArr
import Derived.Test.Qxb6601249aHead
import Derived.WalkKit
import Derived.ProofKit
import Derived.OpenShut
import Derived.ChangeOld
import Derived.Below
namespace Go.Proofs.Qxb6601249a.fnInPlayAddWholeSpec
open Go.ChangeShapes Go.WideShapes Go.ChangeAt Go.RowKit
set_option linter.unusedVariables false

theorem own : ownKnob Try.prog.godebug = none := by kernel_rfl
theorem laidOut : laidOutB Try.prog = true := by kernel_rfl

set_option maxRecDepth 100000 in
theorem lifted (os : Os) (started : os.Started) (H : Type) (enc : TypeId × Value → H) :
    ReturnsInHanded {} Try.checked os 3 .any (Rows.fnInPlayAddWholeSpecSpec.pre6 enc Try.prog Try.f3 Rows.fnInPlayAddWholeSpecRow.domain false) (Rows.fnInPlayAddWholeSpecSpec.post enc Try.prog Try.f3 false true false false) := by
  refine returnsInHanded_of_change (C := Try.checked) own started (by kernel_rfl) Try.func3
    (ChangeSpec.witness6 (enc := enc) (C := Try.checked) false ⟨#[], #[.agg #[.int .i64 0, .int .i64 0, .int .i64 0, .int .i64 0, .int .i64 0, .int .i64 0, .int .i64 0, .int .i64 0, .int .i64 0, .int .i64 0, .int .i64 0, .int .i64 0, .int .i64 0, .int .i64 0, .int .i64 0, .int .i64 0], .int .i64 0, .bool false, .int .i64 0], []⟩ 8 (by kernel_rfl) (by kernel_rfl) (by kernel_rfl) (by kernel_rfl)) ?_
  intro W base args ds gs before hval0 hW hcnd _
  have hval : ∀ (j : Nat) t v, Try.f3.params[j]? = some t → args[j]? = some v → Value.okWide Try.prog W .any base t v := hval0
  have hW' := hW
  obtain ⟨p, q, hA0, hV, rfl, hfz, hnd⟩ := hW
  have hA : DataW.TrodAll enc Try.prog W 0 (fun _ => true) true Try.f3.params.toList args.toList ds p := hA0
  rw [Try.params3] at hA hval
  obtain ⟨v0, vs0, d0, ds0, p0, q0, hargs, rfl, rfl, h0, r0⟩ := trodAll_cons hA
  obtain ⟨v1, vs1, d1, ds1, p1, q1, rfl, rfl, rfl, h1, r1⟩ := trodAll_cons r0
  obtain ⟨v2, vs2, d2, ds2, p2, q2, rfl, rfl, rfl, h2, r2⟩ := trodAll_cons r1
  obtain ⟨v3, vs3, d3, ds3, p3, q3, rfl, rfl, rfl, h3, r3⟩ := trodAll_cons r2
  obtain ⟨rfl, rfl, rfl⟩ := trodAll_nil r3
  obtain rfl : args = #[v0, v1, v2, v3] := by cases args; simp_all
  obtain ⟨rfl, rfl⟩ := trodVars_none hV
  have k0 := h0
  have lt0 : ∀ x ∈ p0, x.block < W.heap.size := by obtain ⟨m, hm⟩ := k0; exact DataW.trod_lt m _ _ _ hm
  obtain ⟨f, hv0, hwf⟩ := open_arr Try.underlying22 Try.underlying3 (by kernel_rfl) (by kernel_rfl) (hval 0 22 v0 rfl rfl) h0
  obtain ⟨a1, rfl, rfl, rfl, w1⟩ := open_int Try.underlying3 (hval 1 3 v1 rfl rfl) h1
  obtain ⟨a2, rfl, rfl, rfl⟩ := open_bool Try.underlying4 (hval 2 4 v2 rfl rfl) h2
  obtain ⟨a3, rfl, rfl, rfl, w3⟩ := open_int Try.underlying3 (hval 3 3 v3 rfl rfl) h3
  clear hA0 hval0
  subst hv0
  refine (walk f a1 a3 a2 W (fun k hk => (bounds_i64 (hwf k hk)).2) (bounds_i64 w3).2).mono fun e W' ⟨he, bel⟩ => ?_
  subst he
  exact ⟨_, rfl, _, _, _, [], _, [], hW', trodAll_mk1 (shut_bool Try.underlying4 _), (trodAll_cons_mk (Below.trod laidOut (by kernel_rfl) (of_decide_eq_true (by kernel_rfl)) k0 bel lt0) (trodAll_cons_mk (shut_int Try.underlying3 w1) (trodAll_cons_mk (shut_bool Try.underlying4 _) (trodAll_cons_mk (shut_int Try.underlying3 w3) trodAll_mk0)))), rfl, bel.frame _, fun h => by cases h⟩

/-! ### The row's closed facts, one by one -/
theorem k1 : (Rows.fnInPlayAddWholeSpecRow.wf (OpenSpec.ofChange Rows.fnInPlayAddWholeSpecSpec)) = true := by kernel_rfl
theorem k2 : (laidOutB Try.prog) = true := by kernel_rfl
theorem k3 : (mapsRowed Try.prog) = true := by kernel_rfl
theorem k4 : (Try.f3.params.all (Try.prog.readableRec ·)) = true := by kernel_rfl
theorem k5 : (namedTie Try.prog Rows.fnInPlayAddWholeSpecRow.named Rows.fnInPlayAddWholeSpecSpec.vars) = true := by kernel_rfl
theorem k6 : ((Rows.fnInPlayAddWholeSpecRow.stops == [])) = true := by kernel_rfl
theorem k7 : ((Try.prog.stops == [])) = true := by kernel_rfl
theorem k8 : ((Rows.fnInPlayAddWholeSpecRow.knobs == [])) = true := by kernel_rfl
theorem k9 : ((Try.prog.stopKnobs == [])) = true := by kernel_rfl
theorem k10 : ((Rows.fnInPlayAddWholeSpecRow.inPlace == Try.prog.inPlace 3)) = true := by kernel_rfl
theorem k11 : ((Rows.fnInPlayAddWholeSpecRow.unfollowed == Try.prog.unfollowed 3)) = true := by kernel_rfl
theorem k12 : ((Rows.fnInPlayAddWholeSpecRow.recurses == Try.prog.recurses 3)) = true := by kernel_rfl
theorem k13 : ((Rows.fnInPlayAddWholeSpecRow.named == Try.prog.varsNamed 3)) = true := by kernel_rfl
theorem k14 : ((Rows.fnInPlayAddWholeSpecRow.maps == (Try.f3.params.toList ++ Rows.fnInPlayAddWholeSpecSpec.plain.varTypes Try.prog).any (Try.prog.mapsRec ·))) = true := by kernel_rfl
theorem k15 : ((Rows.fnInPlayAddWholeSpecRow.ifaces == (Try.f3.params.toList ++ Rows.fnInPlayAddWholeSpecSpec.plain.varTypes Try.prog).any (Try.prog.ifacesRec ·))) = true := by kernel_rfl
theorem k16 : ((Rows.fnInPlayAddWholeSpecRow.mapsOut == Try.prog.mapsAmong Try.f3.resultTypes.toList)) = true := by kernel_rfl
theorem k17 : ((Rows.fnInPlayAddWholeSpecRow.loops == (Try.f3.params.toList ++ Rows.fnInPlayAddWholeSpecSpec.plain.varTypes Try.prog).any (Try.prog.loopsFrom ·))) = true := by kernel_rfl
theorem k18 : ((Rows.fnInPlayAddWholeSpecRow.wideKeys == (Try.f3.params.toList ++ Rows.fnInPlayAddWholeSpecSpec.plain.varTypes Try.prog ++ Try.f3.resultTypes.toList).any (Try.prog.wideKeysFrom ·))) = true := by kernel_rfl
theorem k19 : (Rows.fnInPlayAddWholeSpecSpec.vars.all (Try.prog.varReadable ·)) = true := by kernel_rfl
theorem k20 : (Try.f3.resultTypes.all (fun t => Try.prog.readableRec t && decide (t < Try.prog.types.size))) = true := by kernel_rfl
theorem k21 : ((Rows.fnInPlayAddWholeSpecRow.ifacesOut == Try.f3.resultTypes.toList.any (Try.prog.ifacesRec ·))) = true := by kernel_rfl
theorem k22 : ((Rows.fnInPlayAddWholeSpecRow.loopsOut == Try.f3.resultTypes.toList.any (Try.prog.loopsFrom ·))) = true := by kernel_rfl
theorem k23 : ((Rows.fnInPlayAddWholeSpecRow.plainKeys == Try.prog.plainKeys)) = true := by kernel_rfl
theorem k24 : (Rows.fnInPlayAddWholeSpecRow.shortTexts.isNone) = true := by kernel_rfl
theorem k25 : (Try.prog.stopsHeard) = true := by kernel_rfl
theorem k26 : (Try.prog.mayEnter) = true := may_enter
theorem k27 : ((Rows.fnInPlayAddWholeSpecRow.lifted == Try.prog.liftsFinal)) = true := by rw [lifts_final]; rfl
theorem k28 : ((Try.prog.make == some Rows.fnInPlayAddWholeSpecRow.make)) = true := by rw [make_is]; rfl
theorem k29 : ((Rows.fnInPlayAddWholeSpecRow.kinds == (if Rows.fnInPlayAddWholeSpecRow.domain.isEmpty then [] else Try.f3.params.toList.map fun t => match Try.prog.underlying t with | some (.int k) => some k | _ => none))) = true := by kernel_rfl
theorem k30 : ((Rows.fnInPlayAddWholeSpecRow.pinned == Rows.fnInPlayAddWholeSpecRow.pinnedBy)) = true := by kernel_rfl
theorem k31 : ((Rows.fnInPlayAddWholeSpecRow.veiled == (Try.f3.params.toList ++ Rows.fnInPlayAddWholeSpecSpec.plain.varTypes Try.prog ++ Try.f3.resultTypes.toList).any (Try.prog.veiledRec ·))) = true := by kernel_rfl
theorem k32 : (Rows.fnInPlayAddWholeSpecRow.veiledFits Try.prog Try.f3.params.toList (Try.f3.params.toList ++ Rows.fnInPlayAddWholeSpecSpec.plain.varTypes Try.prog ++ Try.f3.resultTypes.toList)) = true := by kernel_rfl
theorem closed : joinedFacts Try.prog 3 Try.f3 Rows.fnInPlayAddWholeSpecSpec Rows.fnInPlayAddWholeSpecRow = true :=
  both (both (both (both (both (both (both (both (both (both (both (both (both (both (both (both (both (both (both (both (both (both (both (both (both (both (both (both (both (both (both k1 k2) k3) k4) k5) k6) k7) k8) k9) k10) k11) k12) k13) k14) k15) k16) k17) k18) k19) k20) k21) k22) k23) k24) k25) k26) k27) k28) k29) k30) k31) k32

theorem over : Rows.fnInPlayAddWholeSpecRow.holds Try.pinned (OpenSpec.ofChange Rows.fnInPlayAddWholeSpecSpec) :=
  OpenClaim.holds_of_wide 3 Try.f3 rfl rfl rfl rfl rfl rfl rfl ⟨rfl, rfl, rfl, rfl, rfl⟩ rfl rfl rfl rfl rfl (by kernel_rfl) Try.func3 closed
    (of_decide_eq_true (by kernel_rfl)) (by unfold Func.isWrapper; first | (rw [if_pos (by decide +kernel)]; kernel_rfl) | (rw [if_neg (by decide +kernel)]; exact ⟨rfl, rfl⟩))
    (fun os started H enc _ => lifted os started H enc)

/-- The statement. -/
theorem proved : Rows.FnInPlayAddWholeSpecSaid := over
end Go.Proofs.Qxb6601249a.fnInPlayAddWholeSpec
