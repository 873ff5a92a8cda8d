/-
  No cell of these rows narrows 'for every input' (looked for: loops, veiled, ifaces, maps, wideKeys, modest, calm, conditions, laid).
  DERIVED. THE GIVEN ROWS OF THIS SEAT. 2 by the template 'for every input the law returns true; each argument reads behind the call as it read before'; 0 by the template 'total and deterministic' (their statements: Qxb6630817aTotals.lean).
  GIVEN WITH THE SEED: the statements are not yours to turn. If you find one false, say at which input.
  Laid BY PROGRAM, IN A SANDBOX (cutbox-rows.mjs): the forced cells as the released guide's own fill.sh prints them over the translation ce908486cffdd717… (all of the seat's roots in one cut). By AI agents, Wed Nov 11 2026. No macro, syntax, notation, axiom, sorry.
-/
import Derived.Test.Qxb6630817aChecked
import GoSem.Claim
import GoSem.ClaimJoined
import GoSem.ClaimMapViews
import Derived.JoinedTies
import Derived.KernelRfl
namespace Go.Proofs.Qxb6630817a
/- THE CELL 'sum', in the pinned program and in every row, IS THE sha256 OF THE DUMP (.gsa) THAT Qxb6630817aProg.lean LOADS. Nothing in Lean hashes anything: it is a label: what it is worth is what the hold of that sum in a sandbox is worth. -/
noncomputable def Try.pinned : Pinned := { name := "qxb6630817a", sum := "ce908486cffdd7178cdab4aab61435dce0c90b8e88c3cce34c6b0a3676b02600", checked := Try.checked }
namespace Rows
def none {H : Type} : Left H := { results := [], args := [] }

/-- 'zzlaws_internal_bech32_b1.FnToGroupsBitsModel': WHATEVER THE INPUT: true; the input reads as it did. -/
def fnToGroupsBitsModelSpec : ChangeSpec := { name := "fnToGroupsBitsModel", fn := fun _ => fun
  | [d] => { results := [.lit (.bool true)], args := [d] }
  | _ => none }
def fnToGroupsBitsModelRow : OpenClaim := { program := "qxb6630817a", sum := "ce908486cffdd7178cdab4aab61435dce0c90b8e88c3cce34c6b0a3676b02600", func := "example.com/warded-keys/warded-keys/zzlaws_internal_bech32_b1.FnToGroupsBitsModel", spec := "fnToGroupsBitsModel", apart := false }
def FnToGroupsBitsModelSaid : Prop := fnToGroupsBitsModelRow.holds Try.pinned (OpenSpec.ofChange fnToGroupsBitsModelSpec)

/-- ITS FALSE NEIGHBOUR: 'it returns false'. Refute it at one input. -/
def fnToGroupsBitsModelWrong : ChangeSpec := { name := "fnToGroupsBitsModel", fn := fun _ => fun
  | [d] => { results := [.lit (.bool false)], args := [d] }
  | _ => none }
def FnToGroupsBitsModelWrongFalsely : Prop := fnToGroupsBitsModelRow.holds Try.pinned (OpenSpec.ofChange fnToGroupsBitsModelWrong)

/-- 'zzlaws_internal_bech32_b1.FnToGroupsSplitAtFiveBytes': WHATEVER THE INPUT: true; the input reads as it did. -/
def fnToGroupsSplitAtFiveBytesSpec : ChangeSpec := { name := "fnToGroupsSplitAtFiveBytes", fn := fun _ => fun
  | [d1, d2] => { results := [.lit (.bool true)], args := [d1, d2] }
  | _ => none }
def fnToGroupsSplitAtFiveBytesRow : OpenClaim := { program := "qxb6630817a", sum := "ce908486cffdd7178cdab4aab61435dce0c90b8e88c3cce34c6b0a3676b02600", func := "example.com/warded-keys/warded-keys/zzlaws_internal_bech32_b1.FnToGroupsSplitAtFiveBytes", spec := "fnToGroupsSplitAtFiveBytes", apart := false }
def FnToGroupsSplitAtFiveBytesSaid : Prop := fnToGroupsSplitAtFiveBytesRow.holds Try.pinned (OpenSpec.ofChange fnToGroupsSplitAtFiveBytesSpec)

/-- ITS FALSE NEIGHBOUR: 'it returns false'. Refute it at one input. -/
def fnToGroupsSplitAtFiveBytesWrong : ChangeSpec := { name := "fnToGroupsSplitAtFiveBytes", fn := fun _ => fun
  | [d1, d2] => { results := [.lit (.bool false)], args := [d1, d2] }
  | _ => none }
def FnToGroupsSplitAtFiveBytesWrongFalsely : Prop := fnToGroupsSplitAtFiveBytesRow.holds Try.pinned (OpenSpec.ofChange fnToGroupsSplitAtFiveBytesWrong)

end Rows
end Go.Proofs.Qxb6630817a
