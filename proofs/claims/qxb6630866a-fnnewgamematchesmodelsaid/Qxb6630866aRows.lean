/-
  No cell of these rows narrows 'for every input' (looked for: loops, veiled, ifaces, maps, wideKeys, modest, calm, conditions, laid).
  DERIVED. THE GIVEN ROWS OF THIS SEAT. 2 by the template 'for every input the law returns true; each argument reads behind the call as it read before'; 0 by the template 'total and deterministic' (their statements: Qxb6630866aTotals.lean).
  GIVEN WITH THE SEED: the statements are not yours to turn. If you find one false, say at which input.
  Laid BY PROGRAM, IN A SANDBOX (cutbox-rows.mjs): the forced cells as the released guide's own fill.sh prints them over the translation 0487f8edeb5f58b7… (all of the seat's roots in one cut). By AI agents, Wed Nov 11 2026. No macro, syntax, notation, axiom, sorry.
-/
import Derived.Test.Qxb6630866aChecked
import GoSem.Claim
import GoSem.ClaimJoined
import GoSem.ClaimMapViews
import Derived.JoinedTies
import Derived.KernelRfl
namespace Go.Proofs.Qxb6630866a
/- THE CELL 'sum', in the pinned program and in every row, IS THE sha256 OF THE DUMP (.gsa) THAT Qxb6630866aProg.lean LOADS. Nothing in Lean hashes anything: it is a label: what it is worth is what the hold of that sum in a sandbox is worth. -/
noncomputable def Try.pinned : Pinned := { name := "qxb6630866a", sum := "0487f8edeb5f58b7f5714119e856e8a1f16e3cd9afa48ed075ee4d1b182b8310", checked := Try.checked }
namespace Rows
def none {H : Type} : Left H := { results := [], args := [] }

/-- 'zzlaws_pyrat_b1.FnNewGameMatchesModel': WHATEVER THE INPUT: true; the input reads as it did. -/
def fnNewGameMatchesModelSpec : ChangeSpec := { name := "fnNewGameMatchesModel", fn := fun _ => fun
  | [d1, d2, d3, d4, d5, d6, d7, d8, d9] => { results := [.lit (.bool true)], args := [d1, d2, d3, d4, d5, d6, d7, d8, d9] }
  | _ => none }
def fnNewGameMatchesModelRow : OpenClaim := { program := "qxb6630866a", sum := "0487f8edeb5f58b7f5714119e856e8a1f16e3cd9afa48ed075ee4d1b182b8310", func := "example.com/turnwire/turnwire/zzlaws_pyrat_b1.FnNewGameMatchesModel", spec := "fnNewGameMatchesModel", plainKeys := false, apart := false }
def FnNewGameMatchesModelSaid : Prop := fnNewGameMatchesModelRow.holds Try.pinned (OpenSpec.ofChange fnNewGameMatchesModelSpec)

/-- ITS FALSE NEIGHBOUR: 'it returns false'. Refute it at one input. -/
def fnNewGameMatchesModelWrong : ChangeSpec := { name := "fnNewGameMatchesModel", fn := fun _ => fun
  | [d1, d2, d3, d4, d5, d6, d7, d8, d9] => { results := [.lit (.bool false)], args := [d1, d2, d3, d4, d5, d6, d7, d8, d9] }
  | _ => none }
def FnNewGameMatchesModelWrongFalsely : Prop := fnNewGameMatchesModelRow.holds Try.pinned (OpenSpec.ofChange fnNewGameMatchesModelWrong)

/-- 'zzlaws_pyrat_b1.FnNewGameOrderAndOrientationFree': WHATEVER THE INPUT: true; the input reads as it did. -/
def fnNewGameOrderAndOrientationFreeSpec : ChangeSpec := { name := "fnNewGameOrderAndOrientationFree", fn := fun _ => fun
  | [d1, d2, d3, d4, d5, d6, d7, d8, d9] => { results := [.lit (.bool true)], args := [d1, d2, d3, d4, d5, d6, d7, d8, d9] }
  | _ => none }
def fnNewGameOrderAndOrientationFreeRow : OpenClaim := { program := "qxb6630866a", sum := "0487f8edeb5f58b7f5714119e856e8a1f16e3cd9afa48ed075ee4d1b182b8310", func := "example.com/turnwire/turnwire/zzlaws_pyrat_b1.FnNewGameOrderAndOrientationFree", spec := "fnNewGameOrderAndOrientationFree", plainKeys := false, apart := false }
def FnNewGameOrderAndOrientationFreeSaid : Prop := fnNewGameOrderAndOrientationFreeRow.holds Try.pinned (OpenSpec.ofChange fnNewGameOrderAndOrientationFreeSpec)

/-- ITS FALSE NEIGHBOUR: 'it returns false'. Refute it at one input. -/
def fnNewGameOrderAndOrientationFreeWrong : ChangeSpec := { name := "fnNewGameOrderAndOrientationFree", fn := fun _ => fun
  | [d1, d2, d3, d4, d5, d6, d7, d8, d9] => { results := [.lit (.bool false)], args := [d1, d2, d3, d4, d5, d6, d7, d8, d9] }
  | _ => none }
def FnNewGameOrderAndOrientationFreeWrongFalsely : Prop := fnNewGameOrderAndOrientationFreeRow.holds Try.pinned (OpenSpec.ofChange fnNewGameOrderAndOrientationFreeWrong)

end Rows
end Go.Proofs.Qxb6630866a
