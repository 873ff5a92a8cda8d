/-
  No cell of these rows narrows 'for every input' (looked for: loops, veiled, ifaces, maps, wideKeys, modest, calm, conditions, laid).
  DERIVED. THE GIVEN ROWS OF THIS SEAT. 2 by the template 'for every input the law returns true; each argument reads behind the call as it read before'; 0 by the template 'total and deterministic' (their statements: Qxb6627403aFmtTotals.lean).
  GIVEN WITH THE SEED: the statements are not yours to turn. If you find one false, say at which input.
  Laid BY PROGRAM, IN A SANDBOX (cutbox-rows.mjs): the forced cells as the released guide's own fill.sh prints them over the translation 1803336e5ea60d28… (all of the seat's roots in one cut). By AI agents, Wed Nov 11 2026. No macro, syntax, notation, axiom, sorry.
-/
import Derived.Test.Qxb6627403aFmtChecked
import GoSem.Claim
import GoSem.ClaimJoined
import GoSem.ClaimMapViews
import Derived.JoinedTies
import Derived.KernelRfl
namespace Go.Proofs.Qxb6627403aFmt
/- THE CELL 'sum', in the pinned program and in every row, IS THE sha256 OF THE DUMP (.gsa) THAT Qxb6627403aFmtProg.lean LOADS. Nothing in Lean hashes anything: it is a label: what it is worth is what the hold of that sum in a sandbox is worth. -/
noncomputable def Tryf.pinned : Pinned := { name := "qxb6627403afmt", sum := "1803336e5ea60d28ccdf5afce48d1c0e08d8de88b70de157f4f146d8e93428db", checked := Tryf.checked }
namespace Rows
def none {H : Type} : Left H := { results := [], args := [] }

/-- 'zzlaws_pkg_domain_b1.FnTotalAgreesAtAnyCut': WHATEVER THE INPUT: true; the input reads as it did. -/
def fnTotalAgreesAtAnyCutSpec : ChangeSpec := { name := "fnTotalAgreesAtAnyCut", fn := fun _ => fun
  | [d1, d2, d3, d4] => { results := [.lit (.bool true)], args := [d1, d2, d3, d4] }
  | _ => none }
def fnTotalAgreesAtAnyCutRow : OpenClaim := { program := "qxb6627403afmt", sum := "1803336e5ea60d28ccdf5afce48d1c0e08d8de88b70de157f4f146d8e93428db", func := "example.com/adapters-over-domain/adapters-over-domain/zzlaws_pkg_domain_b1.FnTotalAgreesAtAnyCut", spec := "fnTotalAgreesAtAnyCut", stops := ["fmt.errorf"], inPlace := ["math/bits.Add64", "fmt.errorf"], apart := false }
/-- NO THEOREM (fmt's text is open here; it may be false): for the released tool's asking of the row's closed facts alone. THE STATEMENT IS 'FnTotalAgreesAtAnyCutToldSaid' (Qxb6627403aFmtCards.lean). -/
def FnTotalAgreesAtAnyCutFormAsk : Prop := fnTotalAgreesAtAnyCutRow.holds Tryf.pinned (OpenSpec.ofChange fnTotalAgreesAtAnyCutSpec)

/-- ITS FALSE NEIGHBOUR: 'it returns false'. Refute it at one input. -/
def fnTotalAgreesAtAnyCutWrong : ChangeSpec := { name := "fnTotalAgreesAtAnyCut", fn := fun _ => fun
  | [d1, d2, d3, d4] => { results := [.lit (.bool false)], args := [d1, d2, d3, d4] }
  | _ => none }
def FnTotalAgreesAtAnyCutWrongFormAsk : Prop := fnTotalAgreesAtAnyCutRow.holds Tryf.pinned (OpenSpec.ofChange fnTotalAgreesAtAnyCutWrong)

/-- 'zzlaws_pkg_domain_b1.FnTotalIgnoresLineOrder': WHATEVER THE INPUT: true; the input reads as it did. -/
def fnTotalIgnoresLineOrderSpec : ChangeSpec := { name := "fnTotalIgnoresLineOrder", fn := fun _ => fun
  | [d1, d2, d3, d4, d5] => { results := [.lit (.bool true)], args := [d1, d2, d3, d4, d5] }
  | _ => none }
def fnTotalIgnoresLineOrderRow : OpenClaim := { program := "qxb6627403afmt", sum := "1803336e5ea60d28ccdf5afce48d1c0e08d8de88b70de157f4f146d8e93428db", func := "example.com/adapters-over-domain/adapters-over-domain/zzlaws_pkg_domain_b1.FnTotalIgnoresLineOrder", spec := "fnTotalIgnoresLineOrder", stops := ["fmt.errorf"], inPlace := ["math/bits.Add64", "fmt.errorf"], apart := false }
/-- NO THEOREM (fmt's text is open here; it may be false): for the released tool's asking of the row's closed facts alone. THE STATEMENT IS 'FnTotalIgnoresLineOrderToldSaid' (Qxb6627403aFmtCards.lean). -/
def FnTotalIgnoresLineOrderFormAsk : Prop := fnTotalIgnoresLineOrderRow.holds Tryf.pinned (OpenSpec.ofChange fnTotalIgnoresLineOrderSpec)

/-- ITS FALSE NEIGHBOUR: 'it returns false'. Refute it at one input. -/
def fnTotalIgnoresLineOrderWrong : ChangeSpec := { name := "fnTotalIgnoresLineOrder", fn := fun _ => fun
  | [d1, d2, d3, d4, d5] => { results := [.lit (.bool false)], args := [d1, d2, d3, d4, d5] }
  | _ => none }
def FnTotalIgnoresLineOrderWrongFormAsk : Prop := fnTotalIgnoresLineOrderRow.holds Tryf.pinned (OpenSpec.ofChange fnTotalIgnoresLineOrderWrong)

end Rows
end Go.Proofs.Qxb6627403aFmt
