/-
  No cell of these rows narrows 'for every input' (looked for: loops, veiled, ifaces, maps, wideKeys, modest, calm, conditions, laid).
  DERIVED. THE GIVEN ROWS OF THIS SEAT. 2 by the template 'for every input the law returns true; each argument reads behind the call as it read before'; 0 by the template 'total and deterministic' (their statements: Qxb6601249aTotals.lean).
  GIVEN WITH THE SEED: the statements are not yours to turn. If you find one false, say at which input.
  Laid BY PROGRAM, IN A SANDBOX (cutbox-rows.mjs): the forced cells as the released guide's own fill.sh prints them over the translation 1254d5522fb563f4… (all of the seat's roots in one cut). By AI agents, Wed Nov 11 2026. No macro, syntax, notation, axiom, sorry.
-/
import Derived.Test.Qxb6601249aChecked
import GoSem.Claim
import GoSem.ClaimJoined
import GoSem.ClaimMapViews
import Derived.JoinedTies
import Derived.KernelRfl
namespace Go.Proofs.Qxb6601249a
/- THE CELL 'sum', in the pinned program and in every row, IS THE sha256 OF THE DUMP (.gsa) THAT Qxb6601249aProg.lean LOADS. Nothing in Lean hashes anything: it is a label: what it is worth is what the hold of that sum in a sandbox is worth. -/
noncomputable def Try.pinned : Pinned := { name := "qxb6601249a", sum := "1254d5522fb563f4b17ff6ed0fc56cb9df08b047d2dc2489fb408df1aa053983", checked := Try.checked }
namespace Rows
def none {H : Type} : Left H := { results := [], args := [] }

/-- 'zzlaws_internal_paxos_b1.FnInPlayAddWholeSpec': WHATEVER THE INPUT: true; the input reads as it did. -/
def fnInPlayAddWholeSpecSpec : ChangeSpec := { name := "fnInPlayAddWholeSpec", fn := fun _ => fun
  | [d1, d2, d3, d4] => { results := [.lit (.bool true)], args := [d1, d2, d3, d4] }
  | _ => none }
def fnInPlayAddWholeSpecRow : OpenClaim := { program := "qxb6601249a", sum := "1254d5522fb563f4b17ff6ed0fc56cb9df08b047d2dc2489fb408df1aa053983", func := "example.com/assent/assent/zzlaws_internal_paxos_b1.FnInPlayAddWholeSpec", spec := "fnInPlayAddWholeSpec", apart := false }
def FnInPlayAddWholeSpecSaid : Prop := fnInPlayAddWholeSpecRow.holds Try.pinned (OpenSpec.ofChange fnInPlayAddWholeSpecSpec)

/-- ITS FALSE NEIGHBOUR: 'it returns false'. Refute it at one input. -/
def fnInPlayAddWholeSpecWrong : ChangeSpec := { name := "fnInPlayAddWholeSpec", fn := fun _ => fun
  | [d1, d2, d3, d4] => { results := [.lit (.bool false)], args := [d1, d2, d3, d4] }
  | _ => none }
def FnInPlayAddWholeSpecWrongFalsely : Prop := fnInPlayAddWholeSpecRow.holds Try.pinned (OpenSpec.ofChange fnInPlayAddWholeSpecWrong)

/-- 'zzlaws_internal_paxos_b1.FnInPlayAddScriptKeepsLastSixteen': WHATEVER THE INPUT: true; the input reads as it did. -/
def fnInPlayAddScriptKeepsLastSixteenSpec : ChangeSpec := { name := "fnInPlayAddScriptKeepsLastSixteen", fn := fun _ => fun
  | [d] => { results := [.lit (.bool true)], args := [d] }
  | _ => none }
def fnInPlayAddScriptKeepsLastSixteenRow : OpenClaim := { program := "qxb6601249a", sum := "1254d5522fb563f4b17ff6ed0fc56cb9df08b047d2dc2489fb408df1aa053983", func := "example.com/assent/assent/zzlaws_internal_paxos_b1.FnInPlayAddScriptKeepsLastSixteen", spec := "fnInPlayAddScriptKeepsLastSixteen", apart := false }
def FnInPlayAddScriptKeepsLastSixteenSaid : Prop := fnInPlayAddScriptKeepsLastSixteenRow.holds Try.pinned (OpenSpec.ofChange fnInPlayAddScriptKeepsLastSixteenSpec)

/-- ITS FALSE NEIGHBOUR: 'it returns false'. Refute it at one input. -/
def fnInPlayAddScriptKeepsLastSixteenWrong : ChangeSpec := { name := "fnInPlayAddScriptKeepsLastSixteen", fn := fun _ => fun
  | [d] => { results := [.lit (.bool false)], args := [d] }
  | _ => none }
def FnInPlayAddScriptKeepsLastSixteenWrongFalsely : Prop := fnInPlayAddScriptKeepsLastSixteenRow.holds Try.pinned (OpenSpec.ofChange fnInPlayAddScriptKeepsLastSixteenWrong)

end Rows
end Go.Proofs.Qxb6601249a
