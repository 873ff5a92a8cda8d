/-
  DERIVED. GIVEN WITH THE SEED: THE CARDS: each row of Qxb6627403aFmtRows.lean that lists a variable, with what it lists TIED to the program's text (the seventh form; the later family's looks); each row that meets fmt, with fmt's text TOLD by the authors' own Lean function (tested against real Go, not proved from fmt's source: count such statements apart). THE CARD IS WHAT COUNTS. Prove the row's statement (the work); the ties are given (Qxb6627403aFmtTie.lean); close each card by the builder's one call (the guide's Derived/Test/ToyasCard.lean, 'card_holds'). Laid BY PROGRAM, IN A SANDBOX (cutbox-door.mjs). By AI agents, Wed Nov 11 2026. No macro, syntax, notation, axiom, sorry.
-/
import Derived.Test.Qxb6627403aFmtRows
import GoSem.ClaimSeven
namespace Go.Proofs.Qxb6627403aFmt
namespace Rows

/-- THE TOLD CARD OF 'zzlaws_pkg_domain_b1.FnTotalAgreesAtAnyCut'. -/
def fnTotalAgreesAtAnyCutCard : Claim7 := { stood := { row := fnTotalAgreesAtAnyCutRow, standIns := [], harness := (true, "456cbb309403022dcee30c0ac434fc510a3bb068f0eb54b128aaa867f80ab583"), looks := false }, told := true, goes := false }
def FnTotalAgreesAtAnyCutToldSaid : Prop := Claim7.holds Tryf.pinned (.plain (OpenSpec.ofChange fnTotalAgreesAtAnyCutSpec)) fnTotalAgreesAtAnyCutCard
/-- ITS FALSE NEIGHBOUR. Refute it at one input. -/
def FnTotalAgreesAtAnyCutToldWrongFalsely : Prop := Claim7.holds Tryf.pinned (.plain (OpenSpec.ofChange fnTotalAgreesAtAnyCutWrong)) fnTotalAgreesAtAnyCutCard

/-- THE TOLD CARD OF 'zzlaws_pkg_domain_b1.FnTotalIgnoresLineOrder'. -/
def fnTotalIgnoresLineOrderCard : Claim7 := { stood := { row := fnTotalIgnoresLineOrderRow, standIns := [], harness := (true, "456cbb309403022dcee30c0ac434fc510a3bb068f0eb54b128aaa867f80ab583"), looks := false }, told := true, goes := false }
def FnTotalIgnoresLineOrderToldSaid : Prop := Claim7.holds Tryf.pinned (.plain (OpenSpec.ofChange fnTotalIgnoresLineOrderSpec)) fnTotalIgnoresLineOrderCard
/-- ITS FALSE NEIGHBOUR. Refute it at one input. -/
def FnTotalIgnoresLineOrderToldWrongFalsely : Prop := Claim7.holds Tryf.pinned (.plain (OpenSpec.ofChange fnTotalIgnoresLineOrderWrong)) fnTotalIgnoresLineOrderCard
end Rows
end Go.Proofs.Qxb6627403aFmt
