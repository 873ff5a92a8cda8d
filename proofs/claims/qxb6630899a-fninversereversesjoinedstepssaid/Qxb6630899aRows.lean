/-
  No cell of these rows narrows 'for every input' (looked for: loops, veiled, ifaces, maps, wideKeys, modest, calm, conditions, laid).
  DERIVED. THE GIVEN ROWS OF THIS SEAT. 2 by the template 'for every input the law returns true; each argument reads behind the call as it read before'; 0 by the template 'total and deterministic' (their statements: Qxb6630899aTotals.lean).
  GIVEN WITH THE SEED: the statements are not yours to turn. If you find one false, say at which input.
  Laid BY PROGRAM, IN A SANDBOX (cutbox-rows.mjs): the forced cells as the released guide's own fill.sh prints them over the translation f4a4f75b9c432e2c… (all of the seat's roots in one cut). By AI agents, Wed Nov 11 2026. No macro, syntax, notation, axiom, sorry.
-/
import Derived.Test.Qxb6630899aChecked
import GoSem.Claim
import GoSem.ClaimJoined
import GoSem.ClaimMapViews
import Derived.JoinedTies
import Derived.KernelRfl
namespace Go.Proofs.Qxb6630899a
/- THE CELL 'sum', in the pinned program and in every row, IS THE sha256 OF THE DUMP (.gsa) THAT Qxb6630899aProg.lean LOADS. Nothing in Lean hashes anything: it is a label: what it is worth is what the hold of that sum in a sandbox is worth. -/
noncomputable def Try.pinned : Pinned := { name := "qxb6630899a", sum := "f4a4f75b9c432e2ca6615119e57566b8f52c611dc336abe920d6a90f517e453d", checked := Try.checked }
namespace Rows
def none {H : Type} : Left H := { results := [], args := [] }

/-- 'zzlaws_internal_conversion_b1.FnInverseTwiceKeepsInvertibleSteps': WHATEVER THE INPUT: true; the input reads as it did. -/
def fnInverseTwiceKeepsInvertibleStepsSpec : ChangeSpec := { name := "fnInverseTwiceKeepsInvertibleSteps", fn := fun _ => fun
  | [d1, d2, d3, d4, d5] => { results := [.lit (.bool true)], args := [d1, d2, d3, d4, d5] }
  | _ => none }
def fnInverseTwiceKeepsInvertibleStepsRow : OpenClaim := { program := "qxb6630899a", sum := "f4a4f75b9c432e2ca6615119e57566b8f52c611dc336abe920d6a90f517e453d", func := "example.com/atropos/atropos/zzlaws_internal_conversion_b1.FnInverseTwiceKeepsInvertibleSteps", spec := "fnInverseTwiceKeepsInvertibleSteps", apart := false }
def FnInverseTwiceKeepsInvertibleStepsSaid : Prop := fnInverseTwiceKeepsInvertibleStepsRow.holds Try.pinned (OpenSpec.ofChange fnInverseTwiceKeepsInvertibleStepsSpec)

/-- ITS FALSE NEIGHBOUR: 'it returns false'. Refute it at one input. -/
def fnInverseTwiceKeepsInvertibleStepsWrong : ChangeSpec := { name := "fnInverseTwiceKeepsInvertibleSteps", fn := fun _ => fun
  | [d1, d2, d3, d4, d5] => { results := [.lit (.bool false)], args := [d1, d2, d3, d4, d5] }
  | _ => none }
def FnInverseTwiceKeepsInvertibleStepsWrongFalsely : Prop := fnInverseTwiceKeepsInvertibleStepsRow.holds Try.pinned (OpenSpec.ofChange fnInverseTwiceKeepsInvertibleStepsWrong)

/-- 'zzlaws_internal_conversion_b1.FnInverseReversesJoinedSteps': WHATEVER THE INPUT: true; the input reads as it did. -/
def fnInverseReversesJoinedStepsSpec : ChangeSpec := { name := "fnInverseReversesJoinedSteps", fn := fun _ => fun
  | [d1, d2, d3, d4, d5, d6] => { results := [.lit (.bool true)], args := [d1, d2, d3, d4, d5, d6] }
  | _ => none }
def fnInverseReversesJoinedStepsRow : OpenClaim := { program := "qxb6630899a", sum := "f4a4f75b9c432e2ca6615119e57566b8f52c611dc336abe920d6a90f517e453d", func := "example.com/atropos/atropos/zzlaws_internal_conversion_b1.FnInverseReversesJoinedSteps", spec := "fnInverseReversesJoinedSteps", apart := false }
def FnInverseReversesJoinedStepsSaid : Prop := fnInverseReversesJoinedStepsRow.holds Try.pinned (OpenSpec.ofChange fnInverseReversesJoinedStepsSpec)

/-- ITS FALSE NEIGHBOUR: 'it returns false'. Refute it at one input. -/
def fnInverseReversesJoinedStepsWrong : ChangeSpec := { name := "fnInverseReversesJoinedSteps", fn := fun _ => fun
  | [d1, d2, d3, d4, d5, d6] => { results := [.lit (.bool false)], args := [d1, d2, d3, d4, d5, d6] }
  | _ => none }
def FnInverseReversesJoinedStepsWrongFalsely : Prop := fnInverseReversesJoinedStepsRow.holds Try.pinned (OpenSpec.ofChange fnInverseReversesJoinedStepsWrong)

end Rows
end Go.Proofs.Qxb6630899a
