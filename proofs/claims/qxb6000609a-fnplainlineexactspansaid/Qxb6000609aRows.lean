/-
  No cell of these rows narrows 'for every input' (looked for: loops, veiled, ifaces, maps, wideKeys, modest, calm, conditions, laid).
  DERIVED. THE GIVEN ROWS OF THIS SEAT. 8 by the template 'for every input the law returns true; each argument reads behind the call as it read before'; 0 by the template 'total and deterministic' (their statements: Qxb6000609aTotals.lean).
  GIVEN WITH THE SEED: the statements are not yours to turn. If you find one false, say at which input.
  Laid BY PROGRAM, IN A SANDBOX (cutbox-rows.mjs): the forced cells as the released guide's own fill.sh prints them over the translation d9ed3e6860a01bda… (all of the seat's roots in one cut). By AI agents, Wed Nov 11 2026. No macro, syntax, notation, axiom, sorry.
-/
import Derived.Test.Qxb6000609aChecked
import GoSem.Claim
import GoSem.ClaimJoined
import GoSem.ClaimMapViews
import Derived.JoinedTies
import Derived.KernelRfl
namespace Go.Proofs.Qxb6000609a
/- THE CELL 'sum', in the pinned program and in every row, IS THE sha256 OF THE DUMP (.gsa) THAT Qxb6000609aProg.lean LOADS. Nothing in Lean hashes anything: it is a label: what it is worth is what the hold of that sum in a sandbox is worth. -/
noncomputable def Try.pinned : Pinned := { name := "qxb6000609a", sum := "d9ed3e6860a01bda0cb1cf5607fa23380c96d0ab75852f0e96d768a65bd4ff63", checked := Try.checked }
namespace Rows
def none {H : Type} : Left H := { results := [], args := [] }

/-- 'zzlaws_root_b1.FnPlainLineExactSpan': WHATEVER THE INPUT: true; the input reads as it did. -/
def fnPlainLineExactSpanSpec : ChangeSpec := { name := "fnPlainLineExactSpan", fn := fun _ => fun
  | [d1, d2, d3] => { results := [.lit (.bool true)], args := [d1, d2, d3] }
  | _ => none }
def fnPlainLineExactSpanRow : OpenClaim := { program := "qxb6000609a", sum := "d9ed3e6860a01bda0cb1cf5607fa23380c96d0ab75852f0e96d768a65bd4ff63", func := "example.com/values-over-layers/values-over-layers/zzlaws_root_b1.FnPlainLineExactSpan", spec := "fnPlainLineExactSpan", apart := false }
def FnPlainLineExactSpanSaid : Prop := fnPlainLineExactSpanRow.holds Try.pinned (OpenSpec.ofChange fnPlainLineExactSpanSpec)

/-- ITS FALSE NEIGHBOUR: 'it returns false'. Refute it at one input. -/
def fnPlainLineExactSpanWrong : ChangeSpec := { name := "fnPlainLineExactSpan", fn := fun _ => fun
  | [d1, d2, d3] => { results := [.lit (.bool false)], args := [d1, d2, d3] }
  | _ => none }
def FnPlainLineExactSpanWrongFalsely : Prop := fnPlainLineExactSpanRow.holds Try.pinned (OpenSpec.ofChange fnPlainLineExactSpanWrong)

/-- 'zzlaws_root_b1.FnPlainLineIdempotent': WHATEVER THE INPUT: true; the input reads as it did. -/
def fnPlainLineIdempotentSpec : ChangeSpec := { name := "fnPlainLineIdempotent", fn := fun _ => fun
  | [d1, d2, d3] => { results := [.lit (.bool true)], args := [d1, d2, d3] }
  | _ => none }
def fnPlainLineIdempotentRow : OpenClaim := { program := "qxb6000609a", sum := "d9ed3e6860a01bda0cb1cf5607fa23380c96d0ab75852f0e96d768a65bd4ff63", func := "example.com/values-over-layers/values-over-layers/zzlaws_root_b1.FnPlainLineIdempotent", spec := "fnPlainLineIdempotent", apart := false }
def FnPlainLineIdempotentSaid : Prop := fnPlainLineIdempotentRow.holds Try.pinned (OpenSpec.ofChange fnPlainLineIdempotentSpec)

/-- ITS FALSE NEIGHBOUR: 'it returns false'. Refute it at one input. -/
def fnPlainLineIdempotentWrong : ChangeSpec := { name := "fnPlainLineIdempotent", fn := fun _ => fun
  | [d1, d2, d3] => { results := [.lit (.bool false)], args := [d1, d2, d3] }
  | _ => none }
def FnPlainLineIdempotentWrongFalsely : Prop := fnPlainLineIdempotentRow.holds Try.pinned (OpenSpec.ofChange fnPlainLineIdempotentWrong)

/-- 'zzlaws_root_b1.FnPlainLineFlowNarrows': WHATEVER THE INPUT: true; the input reads as it did. -/
def fnPlainLineFlowNarrowsSpec : ChangeSpec := { name := "fnPlainLineFlowNarrows", fn := fun _ => fun
  | [d1, d2] => { results := [.lit (.bool true)], args := [d1, d2] }
  | _ => none }
def fnPlainLineFlowNarrowsRow : OpenClaim := { program := "qxb6000609a", sum := "d9ed3e6860a01bda0cb1cf5607fa23380c96d0ab75852f0e96d768a65bd4ff63", func := "example.com/values-over-layers/values-over-layers/zzlaws_root_b1.FnPlainLineFlowNarrows", spec := "fnPlainLineFlowNarrows", apart := false }
def FnPlainLineFlowNarrowsSaid : Prop := fnPlainLineFlowNarrowsRow.holds Try.pinned (OpenSpec.ofChange fnPlainLineFlowNarrowsSpec)

/-- ITS FALSE NEIGHBOUR: 'it returns false'. Refute it at one input. -/
def fnPlainLineFlowNarrowsWrong : ChangeSpec := { name := "fnPlainLineFlowNarrows", fn := fun _ => fun
  | [d1, d2] => { results := [.lit (.bool false)], args := [d1, d2] }
  | _ => none }
def FnPlainLineFlowNarrowsWrongFalsely : Prop := fnPlainLineFlowNarrowsRow.holds Try.pinned (OpenSpec.ofChange fnPlainLineFlowNarrowsWrong)

/-- 'zzlaws_root_b1.FnSkipSpaceExact': WHATEVER THE INPUT: true; the input reads as it did. -/
def fnSkipSpaceExactSpec : ChangeSpec := { name := "fnSkipSpaceExact", fn := fun _ => fun
  | [d1, d2, d3, d4] => { results := [.lit (.bool true)], args := [d1, d2, d3, d4] }
  | _ => none }
def fnSkipSpaceExactRow : OpenClaim := { program := "qxb6000609a", sum := "d9ed3e6860a01bda0cb1cf5607fa23380c96d0ab75852f0e96d768a65bd4ff63", func := "example.com/values-over-layers/values-over-layers/zzlaws_root_b1.FnSkipSpaceExact", spec := "fnSkipSpaceExact", apart := false }
def FnSkipSpaceExactSaid : Prop := fnSkipSpaceExactRow.holds Try.pinned (OpenSpec.ofChange fnSkipSpaceExactSpec)

/-- ITS FALSE NEIGHBOUR: 'it returns false'. Refute it at one input. -/
def fnSkipSpaceExactWrong : ChangeSpec := { name := "fnSkipSpaceExact", fn := fun _ => fun
  | [d1, d2, d3, d4] => { results := [.lit (.bool false)], args := [d1, d2, d3, d4] }
  | _ => none }
def FnSkipSpaceExactWrongFalsely : Prop := fnSkipSpaceExactRow.holds Try.pinned (OpenSpec.ofChange fnSkipSpaceExactWrong)

/-- 'zzlaws_root_b1.FnSkipSpaceIdempotent': WHATEVER THE INPUT: true; the input reads as it did. -/
def fnSkipSpaceIdempotentSpec : ChangeSpec := { name := "fnSkipSpaceIdempotent", fn := fun _ => fun
  | [d1, d2, d3, d4] => { results := [.lit (.bool true)], args := [d1, d2, d3, d4] }
  | _ => none }
def fnSkipSpaceIdempotentRow : OpenClaim := { program := "qxb6000609a", sum := "d9ed3e6860a01bda0cb1cf5607fa23380c96d0ab75852f0e96d768a65bd4ff63", func := "example.com/values-over-layers/values-over-layers/zzlaws_root_b1.FnSkipSpaceIdempotent", spec := "fnSkipSpaceIdempotent", apart := false }
def FnSkipSpaceIdempotentSaid : Prop := fnSkipSpaceIdempotentRow.holds Try.pinned (OpenSpec.ofChange fnSkipSpaceIdempotentSpec)

/-- ITS FALSE NEIGHBOUR: 'it returns false'. Refute it at one input. -/
def fnSkipSpaceIdempotentWrong : ChangeSpec := { name := "fnSkipSpaceIdempotent", fn := fun _ => fun
  | [d1, d2, d3, d4] => { results := [.lit (.bool false)], args := [d1, d2, d3, d4] }
  | _ => none }
def FnSkipSpaceIdempotentWrongFalsely : Prop := fnSkipSpaceIdempotentRow.holds Try.pinned (OpenSpec.ofChange fnSkipSpaceIdempotentWrong)

/-- 'zzlaws_root_b1.FnAppendStringRoundTrip': WHATEVER THE INPUT: true; the input reads as it did. -/
def fnAppendStringRoundTripSpec : ChangeSpec := { name := "fnAppendStringRoundTrip", fn := fun _ => fun
  | [d] => { results := [.lit (.bool true)], args := [d] }
  | _ => none }
def fnAppendStringRoundTripRow : OpenClaim := { program := "qxb6000609a", sum := "d9ed3e6860a01bda0cb1cf5607fa23380c96d0ab75852f0e96d768a65bd4ff63", func := "example.com/values-over-layers/values-over-layers/zzlaws_root_b1.FnAppendStringRoundTrip", spec := "fnAppendStringRoundTrip", apart := false }
def FnAppendStringRoundTripSaid : Prop := fnAppendStringRoundTripRow.holds Try.pinned (OpenSpec.ofChange fnAppendStringRoundTripSpec)

/-- ITS FALSE NEIGHBOUR: 'it returns false'. Refute it at one input. -/
def fnAppendStringRoundTripWrong : ChangeSpec := { name := "fnAppendStringRoundTrip", fn := fun _ => fun
  | [d] => { results := [.lit (.bool false)], args := [d] }
  | _ => none }
def FnAppendStringRoundTripWrongFalsely : Prop := fnAppendStringRoundTripRow.holds Try.pinned (OpenSpec.ofChange fnAppendStringRoundTripWrong)

/-- 'zzlaws_root_b1.FnAppendStringKeepsPrefix': WHATEVER THE INPUT: true; the input reads as it did. -/
def fnAppendStringKeepsPrefixSpec : ChangeSpec := { name := "fnAppendStringKeepsPrefix", fn := fun _ => fun
  | [d1, d2] => { results := [.lit (.bool true)], args := [d1, d2] }
  | _ => none }
def fnAppendStringKeepsPrefixRow : OpenClaim := { program := "qxb6000609a", sum := "d9ed3e6860a01bda0cb1cf5607fa23380c96d0ab75852f0e96d768a65bd4ff63", func := "example.com/values-over-layers/values-over-layers/zzlaws_root_b1.FnAppendStringKeepsPrefix", spec := "fnAppendStringKeepsPrefix", apart := false }
def FnAppendStringKeepsPrefixSaid : Prop := fnAppendStringKeepsPrefixRow.holds Try.pinned (OpenSpec.ofChange fnAppendStringKeepsPrefixSpec)

/-- ITS FALSE NEIGHBOUR: 'it returns false'. Refute it at one input. -/
def fnAppendStringKeepsPrefixWrong : ChangeSpec := { name := "fnAppendStringKeepsPrefix", fn := fun _ => fun
  | [d1, d2] => { results := [.lit (.bool false)], args := [d1, d2] }
  | _ => none }
def FnAppendStringKeepsPrefixWrongFalsely : Prop := fnAppendStringKeepsPrefixRow.holds Try.pinned (OpenSpec.ofChange fnAppendStringKeepsPrefixWrong)

/-- 'zzlaws_root_b1.FnAppendStringConcat': WHATEVER THE INPUT: true; the input reads as it did. -/
def fnAppendStringConcatSpec : ChangeSpec := { name := "fnAppendStringConcat", fn := fun _ => fun
  | [d1, d2] => { results := [.lit (.bool true)], args := [d1, d2] }
  | _ => none }
def fnAppendStringConcatRow : OpenClaim := { program := "qxb6000609a", sum := "d9ed3e6860a01bda0cb1cf5607fa23380c96d0ab75852f0e96d768a65bd4ff63", func := "example.com/values-over-layers/values-over-layers/zzlaws_root_b1.FnAppendStringConcat", spec := "fnAppendStringConcat", apart := false }
def FnAppendStringConcatSaid : Prop := fnAppendStringConcatRow.holds Try.pinned (OpenSpec.ofChange fnAppendStringConcatSpec)

/-- ITS FALSE NEIGHBOUR: 'it returns false'. Refute it at one input. -/
def fnAppendStringConcatWrong : ChangeSpec := { name := "fnAppendStringConcat", fn := fun _ => fun
  | [d1, d2] => { results := [.lit (.bool false)], args := [d1, d2] }
  | _ => none }
def FnAppendStringConcatWrongFalsely : Prop := fnAppendStringConcatRow.holds Try.pinned (OpenSpec.ofChange fnAppendStringConcatWrong)

end Rows
end Go.Proofs.Qxb6000609a
