/-
  No cell of these rows narrows 'for every input' (looked for: loops, veiled, ifaces, maps, wideKeys, modest, calm, conditions, laid).
  DERIVED. THE GIVEN ROWS OF THIS SEAT. 2 by the template 'for every input the law returns true; each argument reads behind the call as it read before'; 0 by the template 'total and deterministic' (their statements: Qxb6612681aTotals.lean).
  GIVEN WITH THE SEED: the statements are not yours to turn. If you find one false, say at which input.
  Laid BY PROGRAM, IN A SANDBOX (cutbox-rows.mjs): the forced cells as the released guide's own fill.sh prints them over the translation 2d0fc918e3928527… (all of the seat's roots in one cut). By AI agents, Wed Nov 11 2026. No macro, syntax, notation, axiom, sorry.
-/
import Derived.Test.Qxb6612681aChecked
import GoSem.Claim
import GoSem.ClaimJoined
import GoSem.ClaimMapViews
import Derived.JoinedTies
import Derived.KernelRfl
namespace Go.Proofs.Qxb6612681a
/- THE CELL 'sum', in the pinned program and in every row, IS THE sha256 OF THE DUMP (.gsa) THAT Qxb6612681aProg.lean LOADS. Nothing in Lean hashes anything: it is a label: what it is worth is what the hold of that sum in a sandbox is worth. -/
noncomputable def Try.pinned : Pinned := { name := "qxb6612681a", sum := "2d0fc918e3928527460a55cff9996ebc1fe0bd877296ad52c5b6afb69fe985c1", checked := Try.checked }
namespace Rows
def none {H : Type} : Left H := { results := [], args := [] }

/-- 'zzlaws_internal_value_b1.FnObjectBytesGrowsByTwoSlotsAStep': WHATEVER THE INPUT: true; the input reads as it did. -/
def fnObjectBytesGrowsByTwoSlotsAStepSpec : ChangeSpec := { name := "fnObjectBytesGrowsByTwoSlotsAStep", fn := fun _ => fun
  | [d] => { results := [.lit (.bool true)], args := [d] }
  | _ => none }
def fnObjectBytesGrowsByTwoSlotsAStepRow : OpenClaim := { program := "qxb6612681a", sum := "2d0fc918e3928527460a55cff9996ebc1fe0bd877296ad52c5b6afb69fe985c1", func := "example.com/policy-evaluator/policy-evaluator/zzlaws_internal_value_b1.FnObjectBytesGrowsByTwoSlotsAStep", spec := "fnObjectBytesGrowsByTwoSlotsAStep", apart := false }
def FnObjectBytesGrowsByTwoSlotsAStepSaid : Prop := fnObjectBytesGrowsByTwoSlotsAStepRow.holds Try.pinned (OpenSpec.ofChange fnObjectBytesGrowsByTwoSlotsAStepSpec)

/-- ITS FALSE NEIGHBOUR: 'it returns false'. Refute it at one input. -/
def fnObjectBytesGrowsByTwoSlotsAStepWrong : ChangeSpec := { name := "fnObjectBytesGrowsByTwoSlotsAStep", fn := fun _ => fun
  | [d] => { results := [.lit (.bool false)], args := [d] }
  | _ => none }
def FnObjectBytesGrowsByTwoSlotsAStepWrongFalsely : Prop := fnObjectBytesGrowsByTwoSlotsAStepRow.holds Try.pinned (OpenSpec.ofChange fnObjectBytesGrowsByTwoSlotsAStepWrong)

/-- 'zzlaws_internal_value_b1.FnObjectBytesAgainstOneSliceOfTwiceTheSlots': WHATEVER THE INPUT: true; the input reads as it did. -/
def fnObjectBytesAgainstOneSliceOfTwiceTheSlotsSpec : ChangeSpec := { name := "fnObjectBytesAgainstOneSliceOfTwiceTheSlots", fn := fun _ => fun
  | [d] => { results := [.lit (.bool true)], args := [d] }
  | _ => none }
def fnObjectBytesAgainstOneSliceOfTwiceTheSlotsRow : OpenClaim := { program := "qxb6612681a", sum := "2d0fc918e3928527460a55cff9996ebc1fe0bd877296ad52c5b6afb69fe985c1", func := "example.com/policy-evaluator/policy-evaluator/zzlaws_internal_value_b1.FnObjectBytesAgainstOneSliceOfTwiceTheSlots", spec := "fnObjectBytesAgainstOneSliceOfTwiceTheSlots", apart := false }
def FnObjectBytesAgainstOneSliceOfTwiceTheSlotsSaid : Prop := fnObjectBytesAgainstOneSliceOfTwiceTheSlotsRow.holds Try.pinned (OpenSpec.ofChange fnObjectBytesAgainstOneSliceOfTwiceTheSlotsSpec)

/-- ITS FALSE NEIGHBOUR: 'it returns false'. Refute it at one input. -/
def fnObjectBytesAgainstOneSliceOfTwiceTheSlotsWrong : ChangeSpec := { name := "fnObjectBytesAgainstOneSliceOfTwiceTheSlots", fn := fun _ => fun
  | [d] => { results := [.lit (.bool false)], args := [d] }
  | _ => none }
def FnObjectBytesAgainstOneSliceOfTwiceTheSlotsWrongFalsely : Prop := fnObjectBytesAgainstOneSliceOfTwiceTheSlotsRow.holds Try.pinned (OpenSpec.ofChange fnObjectBytesAgainstOneSliceOfTwiceTheSlotsWrong)

end Rows
end Go.Proofs.Qxb6612681a
