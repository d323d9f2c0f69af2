/-
  No cell of these rows narrows 'for every input' (looked for: loops, veiled, ifaces, maps, wideKeys, modest, calm, conditions, laid).
  DERIVED. THE GIVEN ROWS OF THIS SEAT. 2 by the template 'for every input the law returns true; each argument reads behind the call as it read before'; 0 by the template 'total and deterministic' (their statements: Qxb6001442aTotals.lean).
  GIVEN WITH THE SEED: the statements are not yours to turn. If you find one false, say at which input.
  Laid BY PROGRAM, IN A SANDBOX (cutbox-rows.mjs): the forced cells as the released guide's own fill.sh prints them over the translation c2fc3b144e935425… (all of the seat's roots in one cut). By AI agents, Wed Nov 11 2026. No macro, syntax, notation, axiom, sorry.
-/
import Derived.Test.Qxb6001442aChecked
import GoSem.Claim
import GoSem.ClaimJoined
import GoSem.ClaimMapViews
import Derived.JoinedTies
import Derived.KernelRfl
namespace Go.Proofs.Qxb6001442a
/- THE CELL 'sum', in the pinned program and in every row, IS THE sha256 OF THE DUMP (.gsa) THAT Qxb6001442aProg.lean LOADS. Nothing in Lean hashes anything: it is a label: what it is worth is what the hold of that sum in a sandbox is worth. -/
noncomputable def Try.pinned : Pinned := { name := "qxb6001442a", sum := "c2fc3b144e935425c38f2f925aefdacbde6cbc594b5821c8064ddda326c451ba", checked := Try.checked }
namespace Rows
def none {H : Type} : Left H := { results := [], args := [] }

/-- 'zzlaws_book_b1.FnSumIsAdditive': WHATEVER THE INPUT: true; the input reads as it did. -/
def fnSumIsAdditiveSpec : ChangeSpec := { name := "fnSumIsAdditive", fn := fun _ => fun
  | [d1, d2, d3, d4] => { results := [.lit (.bool true)], args := [d1, d2, d3, d4] }
  | _ => none }
def fnSumIsAdditiveRow : OpenClaim := { program := "qxb6001442a", sum := "c2fc3b144e935425c38f2f925aefdacbde6cbc594b5821c8064ddda326c451ba", func := "example.com/stakebook/stakebook/zzlaws_book_b1.FnSumIsAdditive", spec := "fnSumIsAdditive", apart := false }
def FnSumIsAdditiveSaid : Prop := fnSumIsAdditiveRow.holds Try.pinned (OpenSpec.ofChange fnSumIsAdditiveSpec)

/-- ITS FALSE NEIGHBOUR: 'it returns false'. Refute it at one input. -/
def fnSumIsAdditiveWrong : ChangeSpec := { name := "fnSumIsAdditive", fn := fun _ => fun
  | [d1, d2, d3, d4] => { results := [.lit (.bool false)], args := [d1, d2, d3, d4] }
  | _ => none }
def FnSumIsAdditiveWrongFalsely : Prop := fnSumIsAdditiveRow.holds Try.pinned (OpenSpec.ofChange fnSumIsAdditiveWrong)

/-- 'zzlaws_book_b1.FnSumKeepsPayoutBalance': WHATEVER THE INPUT: true; the input reads as it did. -/
def fnSumKeepsPayoutBalanceSpec : ChangeSpec := { name := "fnSumKeepsPayoutBalance", fn := fun _ => fun
  | [d1, d2, d3] => { results := [.lit (.bool true)], args := [d1, d2, d3] }
  | _ => none }
def fnSumKeepsPayoutBalanceRow : OpenClaim := { program := "qxb6001442a", sum := "c2fc3b144e935425c38f2f925aefdacbde6cbc594b5821c8064ddda326c451ba", func := "example.com/stakebook/stakebook/zzlaws_book_b1.FnSumKeepsPayoutBalance", spec := "fnSumKeepsPayoutBalance", apart := false }
def FnSumKeepsPayoutBalanceSaid : Prop := fnSumKeepsPayoutBalanceRow.holds Try.pinned (OpenSpec.ofChange fnSumKeepsPayoutBalanceSpec)

/-- ITS FALSE NEIGHBOUR: 'it returns false'. Refute it at one input. -/
def fnSumKeepsPayoutBalanceWrong : ChangeSpec := { name := "fnSumKeepsPayoutBalance", fn := fun _ => fun
  | [d1, d2, d3] => { results := [.lit (.bool false)], args := [d1, d2, d3] }
  | _ => none }
def FnSumKeepsPayoutBalanceWrongFalsely : Prop := fnSumKeepsPayoutBalanceRow.holds Try.pinned (OpenSpec.ofChange fnSumKeepsPayoutBalanceWrong)

end Rows
end Go.Proofs.Qxb6001442a
