/-
  A slice's capacity, opened. Seat b6630899a.
-/
import Derived.Test.Qxb6630899aOpen
namespace Go.Proofs.Qxb6630899a
open Go.ChangeShapes Go.WideShapes Go.ChangeAt Go.RowKit
set_option linter.unusedVariables false

theorem cap_of {H : Type} {enc : TypeId × Value → H} {w : World} {spare : Nat → Bool} {held : Bool} {a : Option Addr} {len cap : Nat} {d : DataW H} {p : List MemPlace} (h : DataW.Trod enc Try.prog w 0 spare held 22 (.slice a len cap) d p) :
    cap ≤ maxLen ∧ len ≤ cap := by
  obtain ⟨fuel, hh⟩ := h
  rcases Deep.open_slice Try.underlying22 hh with ⟨hcs, _⟩ | ⟨ad, len', cap', m, n, D, Pl, hcs, hb, hl, hm, hmm, _, hx⟩
  · simp [Value.cells] at hcs
    obtain ⟨rfl, rfl, rfl⟩ := hcs
    exact ⟨Nat.zero_le _, Nat.le_refl _⟩
  · simp [Value.cells] at hcs
    obtain ⟨rfl, rfl, rfl⟩ := hcs
    exact ⟨hm, hl⟩
end Go.Proofs.Qxb6630899a
