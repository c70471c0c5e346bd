/-
  No cell of these rows narrows 'for every input' (looked for: loops, veiled, ifaces, maps, wideKeys, modest, calm, conditions, laid).
  DERIVED. THE GIVEN ROWS OF THIS SEAT. 1 by the template 'for every input the law returns true; each argument reads behind the call as it read before'; 0 by the template 'total and deterministic' (their statements: Qxb6617907aTotals.lean).
  GIVEN WITH THE SEED: the statements are not yours to turn. If you find one false, say at which input.
  Laid BY PROGRAM, IN A SANDBOX (cutbox-rows.mjs): the forced cells as the released guide's own fill.sh prints them over the translation 4ff12c13d1501e7d… (all of the seat's roots in one cut). By AI agents, Wed Nov 11 2026. No macro, syntax, notation, axiom, sorry.
-/
import Derived.Test.Qxb6617907aChecked
import GoSem.Claim
import GoSem.ClaimJoined
import GoSem.ClaimMapViews
import Derived.JoinedTies
import Derived.KernelRfl
namespace Go.Proofs.Qxb6617907a
/- THE CELL 'sum', in the pinned program and in every row, IS THE sha256 OF THE DUMP (.gsa) THAT Qxb6617907aProg.lean LOADS. Nothing in Lean hashes anything: it is a label: what it is worth is what the hold of that sum in a sandbox is worth. -/
noncomputable def Try.pinned : Pinned := { name := "qxb6617907a", sum := "4ff12c13d1501e7d8562af1517884b59decebc3a2f16008e6fda1ca663d5bd57", checked := Try.checked }
namespace Rows
def none {H : Type} : Left H := { results := [], args := [] }

/-- 'zzlaws_pkg_budget_b1.FnPeriodsFreshEachCallInConstantOrder': WHATEVER THE INPUT: true; the input reads as it did. -/
def fnPeriodsFreshEachCallInConstantOrderSpec : ChangeSpec := { name := "fnPeriodsFreshEachCallInConstantOrder", fn := fun _ => fun
  | [] => { results := [.lit (.bool true)], args := [] }
  | _ => none }
def fnPeriodsFreshEachCallInConstantOrderRow : OpenClaim := { program := "qxb6617907a", sum := "4ff12c13d1501e7d8562af1517884b59decebc3a2f16008e6fda1ca663d5bd57", func := "example.com/model-cost-meter/model-cost-meter/zzlaws_pkg_budget_b1.FnPeriodsFreshEachCallInConstantOrder", spec := "fnPeriodsFreshEachCallInConstantOrder", apart := false }
def FnPeriodsFreshEachCallInConstantOrderSaid : Prop := fnPeriodsFreshEachCallInConstantOrderRow.holds Try.pinned (OpenSpec.ofChange fnPeriodsFreshEachCallInConstantOrderSpec)

/-- ITS FALSE NEIGHBOUR: 'it returns false'. Refute it at one input. -/
def fnPeriodsFreshEachCallInConstantOrderWrong : ChangeSpec := { name := "fnPeriodsFreshEachCallInConstantOrder", fn := fun _ => fun
  | [] => { results := [.lit (.bool false)], args := [] }
  | _ => none }
def FnPeriodsFreshEachCallInConstantOrderWrongFalsely : Prop := fnPeriodsFreshEachCallInConstantOrderRow.holds Try.pinned (OpenSpec.ofChange fnPeriodsFreshEachCallInConstantOrderWrong)

end Rows
end Go.Proofs.Qxb6617907a
