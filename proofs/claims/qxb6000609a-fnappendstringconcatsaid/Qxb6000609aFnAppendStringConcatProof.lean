/-
  The proof of 'Rows.FnAppendStringConcatSaid': the frame is the given shell's; the walk stands in Qxb6000609aConcat.
-/
import Derived.Test.Qxb6000609aRows
import Derived.Test.Qxb6000609aConcat
import Derived.Test.Qxb6000609aHead
import Derived.WalkKit
import Derived.ProofKit
import Derived.OpenShut
import Derived.ShutString
import Derived.Below
namespace Go.Proofs.Qxb6000609a.fnAppendStringConcat
open Go.ChangeShapes Go.WideShapes Go.ChangeAt Go.RowKit
open Go.ChangeMaps (open_string shut_string)
set_option linter.unusedVariables false      -- a walk need not use every 'w<i>' (that an integer argument fits its kind)

theorem own : ownKnob Try.prog.godebug = none := by kernel_rfl


/-! ### THE ROW's STEP: WRITTEN OUT: LEAVE IT -/
set_option maxRecDepth 100000 in
theorem lifted (os : Os) (started : os.Started) (H : Type) (enc : TypeId × Value → H) :
    ReturnsInHanded {} Try.checked os 10 .any (Rows.fnAppendStringConcatSpec.pre6 enc Try.prog Try.f10 Rows.fnAppendStringConcatRow.domain false) (Rows.fnAppendStringConcatSpec.post enc Try.prog Try.f10 false true false false) := by
  refine returnsInHanded_of_change (C := Try.checked) own started (by kernel_rfl) Try.func10
    (ChangeSpec.witness6 (enc := enc) (C := Try.checked) false ⟨#[], #[.string ByteArray.empty, .string ByteArray.empty], []⟩ 8 (by kernel_rfl) (by kernel_rfl) (by kernel_rfl) (by kernel_rfl)) ?_
  intro W base args ds gs before hval0 hW hcnd _
  have hval : ∀ (j : Nat) t v, Try.f10.params[j]? = some t → args[j]? = some v → Value.okWide Try.prog W .any base t v := hval0
  have hW' := hW
  obtain ⟨p, q, hA0, hV, rfl, hfz, hnd⟩ := hW
  have hA : DataW.TrodAll enc Try.prog W 0 (fun _ => true) true Try.f10.params.toList args.toList ds p := hA0
  rw [Try.params10] at hA hval
  obtain ⟨v0, vs0, d0, ds0, p0, q0, hargs, rfl, rfl, h0, r0⟩ := trodAll_cons hA
  obtain ⟨v1, vs1, d1, ds1, p1, q1, rfl, rfl, rfl, h1, r1⟩ := trodAll_cons r0
  obtain ⟨rfl, rfl, rfl⟩ := trodAll_nil r1
  obtain rfl : args = #[v0, v1] := by cases args; simp_all
  obtain ⟨rfl, rfl⟩ := trodVars_none hV
  obtain ⟨a0, rfl, rfl, rfl, w0⟩ := open_string Try.underlying9 (hval 0 9 v0 rfl rfl) h0
  obtain ⟨a1, rfl, rfl, rfl, w1⟩ := open_string Try.underlying9 (hval 1 9 v1 rfl rfl) h1
  clear hA0 hval0
  refine (walk a0 a1 w0 w1 W).mono fun e W' ⟨he, bel⟩ => ?_
  subst he
  exact ⟨_, rfl, _, _, _, [], _, [], hW', trodAll_mk1 (shut_bool Try.underlying4 _), (trodAll_cons_mk (shut_string Try.underlying9 w0) (trodAll_cons_mk (shut_string Try.underlying9 w1) trodAll_mk0)), rfl, bel.frame _, fun h => by cases h⟩

/-! ### The row's closed facts, one by one -/
theorem k1 : (Rows.fnAppendStringConcatRow.wf (OpenSpec.ofChange Rows.fnAppendStringConcatSpec)) = true := by kernel_rfl
theorem k2 : (laidOutB Try.prog) = true := by kernel_rfl
theorem k3 : (mapsRowed Try.prog) = true := by kernel_rfl
theorem k4 : (Try.f10.params.all (Try.prog.readableRec ·)) = true := by kernel_rfl
theorem k5 : (namedTie Try.prog Rows.fnAppendStringConcatRow.named Rows.fnAppendStringConcatSpec.vars) = true := by kernel_rfl
theorem k6 : ((Rows.fnAppendStringConcatRow.stops == [])) = true := by kernel_rfl
theorem k7 : ((Try.prog.stops == [])) = true := by kernel_rfl
theorem k8 : ((Rows.fnAppendStringConcatRow.knobs == [])) = true := by kernel_rfl
theorem k9 : ((Try.prog.stopKnobs == [])) = true := by kernel_rfl
theorem k10 : ((Rows.fnAppendStringConcatRow.inPlace == Try.prog.inPlace 10)) = true := by kernel_rfl
theorem k11 : ((Rows.fnAppendStringConcatRow.unfollowed == Try.prog.unfollowed 10)) = true := by kernel_rfl
theorem k12 : ((Rows.fnAppendStringConcatRow.recurses == Try.prog.recurses 10)) = true := by kernel_rfl
theorem k13 : ((Rows.fnAppendStringConcatRow.named == Try.prog.varsNamed 10)) = true := by kernel_rfl
theorem k14 : ((Rows.fnAppendStringConcatRow.maps == (Try.f10.params.toList ++ Rows.fnAppendStringConcatSpec.plain.varTypes Try.prog).any (Try.prog.mapsRec ·))) = true := by kernel_rfl
theorem k15 : ((Rows.fnAppendStringConcatRow.ifaces == (Try.f10.params.toList ++ Rows.fnAppendStringConcatSpec.plain.varTypes Try.prog).any (Try.prog.ifacesRec ·))) = true := by kernel_rfl
theorem k16 : ((Rows.fnAppendStringConcatRow.mapsOut == Try.prog.mapsAmong Try.f10.resultTypes.toList)) = true := by kernel_rfl
theorem k17 : ((Rows.fnAppendStringConcatRow.loops == (Try.f10.params.toList ++ Rows.fnAppendStringConcatSpec.plain.varTypes Try.prog).any (Try.prog.loopsFrom ·))) = true := by kernel_rfl
theorem k18 : ((Rows.fnAppendStringConcatRow.wideKeys == (Try.f10.params.toList ++ Rows.fnAppendStringConcatSpec.plain.varTypes Try.prog ++ Try.f10.resultTypes.toList).any (Try.prog.wideKeysFrom ·))) = true := by kernel_rfl
theorem k19 : (Rows.fnAppendStringConcatSpec.vars.all (Try.prog.varReadable ·)) = true := by kernel_rfl
theorem k20 : (Try.f10.resultTypes.all (fun t => Try.prog.readableRec t && decide (t < Try.prog.types.size))) = true := by kernel_rfl
theorem k21 : ((Rows.fnAppendStringConcatRow.ifacesOut == Try.f10.resultTypes.toList.any (Try.prog.ifacesRec ·))) = true := by kernel_rfl
theorem k22 : ((Rows.fnAppendStringConcatRow.loopsOut == Try.f10.resultTypes.toList.any (Try.prog.loopsFrom ·))) = true := by kernel_rfl
theorem k23 : ((Rows.fnAppendStringConcatRow.plainKeys == Try.prog.plainKeys)) = true := by kernel_rfl
theorem k24 : (Rows.fnAppendStringConcatRow.shortTexts.isNone) = true := by kernel_rfl
theorem k25 : (Try.prog.stopsHeard) = true := by kernel_rfl
theorem k26 : (Try.prog.mayEnter) = true := may_enter
theorem k27 : ((Rows.fnAppendStringConcatRow.lifted == Try.prog.liftsFinal)) = true := by rw [lifts_final]; rfl
theorem k28 : ((Try.prog.make == some Rows.fnAppendStringConcatRow.make)) = true := by rw [make_is]; rfl
theorem k29 : ((Rows.fnAppendStringConcatRow.kinds == (if Rows.fnAppendStringConcatRow.domain.isEmpty then [] else Try.f10.params.toList.map fun t => match Try.prog.underlying t with | some (.int k) => some k | _ => none))) = true := by kernel_rfl
theorem k30 : ((Rows.fnAppendStringConcatRow.pinned == Rows.fnAppendStringConcatRow.pinnedBy)) = true := by kernel_rfl
theorem k31 : ((Rows.fnAppendStringConcatRow.veiled == (Try.f10.params.toList ++ Rows.fnAppendStringConcatSpec.plain.varTypes Try.prog ++ Try.f10.resultTypes.toList).any (Try.prog.veiledRec ·))) = true := by kernel_rfl
theorem k32 : (Rows.fnAppendStringConcatRow.veiledFits Try.prog Try.f10.params.toList (Try.f10.params.toList ++ Rows.fnAppendStringConcatSpec.plain.varTypes Try.prog ++ Try.f10.resultTypes.toList)) = true := by kernel_rfl
theorem closed : joinedFacts Try.prog 10 Try.f10 Rows.fnAppendStringConcatSpec Rows.fnAppendStringConcatRow = true :=
  both (both (both (both (both (both (both (both (both (both (both (both (both (both (both (both (both (both (both (both (both (both (both (both (both (both (both (both (both (both (both k1 k2) k3) k4) k5) k6) k7) k8) k9) k10) k11) k12) k13) k14) k15) k16) k17) k18) k19) k20) k21) k22) k23) k24) k25) k26) k27) k28) k29) k30) k31) k32

theorem over : Rows.fnAppendStringConcatRow.holds Try.pinned (OpenSpec.ofChange Rows.fnAppendStringConcatSpec) :=
  OpenClaim.holds_of_wide 10 Try.f10 rfl rfl rfl rfl rfl rfl rfl ⟨rfl, rfl, rfl, rfl, rfl⟩ rfl rfl rfl rfl rfl (by kernel_rfl) Try.func10 closed
    (of_decide_eq_true (by kernel_rfl)) (by unfold Func.isWrapper; first | (rw [if_pos (by decide +kernel)]; kernel_rfl) | (rw [if_neg (by decide +kernel)]; exact ⟨rfl, rfl⟩))
    (fun os started H enc _ => lifted os started H enc)

/-- ████ THE STATEMENT ████ -/
theorem proved : Rows.FnAppendStringConcatSaid :=
  over
end Go.Proofs.Qxb6000609a.fnAppendStringConcat
