/-
  A slice of items, opened. Seat b6627403aF.
-/
import Derived.Test.Qxb6627403aFmtLeaf
import Derived.ProofKit
import Derived.OpenShut
import Derived.Deep.Slices
import Derived.ChangeOld
namespace Go.Proofs.Qxb6627403aFmt
open Go.ChangeShapes Go.WideShapes Go.ChangeAt Go.RowKit
set_option linter.unusedVariables false

theorem Tryf.cells2 : Tryf.prog.cellsOf 2 = 1 := by kernel_rfl
theorem Tryf.cells4 : Tryf.prog.cellsOf 4 = 1 := by kernel_rfl
theorem Tryf.cells9 : Tryf.prog.cellsOf 9 = 1 := by kernel_rfl
theorem Tryf.cells39 : Tryf.prog.cellsOf 39 = 4 := by kernel_rfl

section
variable {H : Type} {enc : TypeId × Value → H} {w : World} {base : Nat} {spare : Nat → Bool} {held : Bool}

theorem item_of {fuel : Nat} {cs : List Value} {x : DataW H × List MemPlace} (h : DataW.trod enc Tryf.prog w base spare held fuel 39 cs = some x) :
    ∃ s : It, (∀ j, j < 4 → cs[j]? = some (cellOf s j)) ∧ InR s.2.2.1 := by
  obtain ⟨xs, n, _, rfl, hl, hlen, hfd⟩ := DataW.trod_struct Tryf.underlying39 h
  have hx : xs.length = 4 := hlen
  have g0 : DataW.trod enc Tryf.prog w base spare held n 2 ((cs.drop 0).take (Tryf.prog.cellsOf 2)) = xs[0]? := hfd 0 _ rfl
  have g1 : DataW.trod enc Tryf.prog w base spare held n 9 ((cs.drop 1).take (Tryf.prog.cellsOf 9)) = xs[1]? := hfd 1 _ rfl
  have g2 : DataW.trod enc Tryf.prog w base spare held n 2 ((cs.drop 2).take (Tryf.prog.cellsOf 2)) = xs[2]? := hfd 2 _ rfl
  have g3 : DataW.trod enc Tryf.prog w base spare held n 4 ((cs.drop 3).take (Tryf.prog.cellsOf 4)) = xs[3]? := hfd 3 _ rfl
  rw [Tryf.cells2] at g0 g2
  rw [Tryf.cells9] at g1
  rw [Tryf.cells4] at g3
  rw [List.getElem?_eq_getElem (by omega)] at g0
  rw [List.getElem?_eq_getElem (by omega)] at g1
  rw [List.getElem?_eq_getElem (by omega)] at g2
  rw [List.getElem?_eq_getElem (by omega)] at g3
  obtain ⟨i0, e0, _⟩ := DataW.trod_int Tryf.underlying2 g0
  obtain ⟨s, e1, _⟩ := DataW.trod_string Tryf.underlying9 g1
  obtain ⟨v, e2, _, hw⟩ := DataW.trod_int Tryf.underlying2 g2
  obtain ⟨b, e3, _⟩ := DataW.trod_bool Tryf.underlying4 g3
  have hv : InR v := by
    simp [Lit.wf, IntKind.min, IntKind.max, IntKind.signed, IntKind.bits] at hw
    exact hw
  refine ⟨(i0, s, v, b), ?_, hv⟩
  intro j hj
  match j, hj with
  | 0, _ =>
    have : ((cs.drop 0).take 1)[0]? = some (.int .i64 i0) := by rw [e0]; rfl
    simpa [List.getElem?_take, List.getElem?_drop, cellOf] using this
  | 1, _ =>
    have : ((cs.drop 1).take 1)[0]? = some (.string s) := by rw [e1]; rfl
    simpa [List.getElem?_take, List.getElem?_drop, cellOf] using this
  | 2, _ =>
    have : ((cs.drop 2).take 1)[0]? = some (.int .i64 v) := by rw [e2]; rfl
    simpa [List.getElem?_take, List.getElem?_drop, cellOf] using this
  | 3, _ =>
    have : ((cs.drop 3).take 1)[0]? = some (.bool b) := by rw [e3]; rfl
    simpa [List.getElem?_take, List.getElem?_drop, cellOf] using this

theorem items_of {a : Option Addr} {len cap : Nat} {d : DataW H} {p : List MemPlace} (h : DataW.Trod enc Tryf.prog w 0 spare held 22 (.slice a len cap) d p) :
    cap ≤ maxLen ∧ len ≤ cap ∧ (a = none → len = 0) ∧ ∃ L, L.length = len ∧ RowL w a L ∧ Rng L := by
  obtain ⟨fuel, hh⟩ := h
  rcases Deep.open_slice Tryf.underlying22 hh with ⟨hcs, _⟩ | ⟨ad, len', cap', m, n, D, Pl, hcs, hb, hl, hm, hmm, _, hx⟩
  · simp [Value.cells] at hcs
    obtain ⟨rfl, rfl, rfl⟩ := hcs
    exact ⟨Nat.zero_le _, Nat.le_refl _, fun _ => rfl, [], rfl, .inl rfl, fun i hi => absurd hi (by simp)⟩
  · simp [Value.cells] at hcs
    obtain ⟨rfl, rfl, rfl⟩ := hcs
    rw [Tryf.cells39] at hx
    have hlm : len ≤ m := by rw [hmm]; split <;> omega
    have key : ∀ i, i < len → ∃ s : It, (∀ j, j < 4 → w.cell? ((ad.add (i * 4)).add j) = some (cellOf s j)) ∧ InR s.2.2.1 := by
      intro i hi
      obtain ⟨cs', h1, h2⟩ := hx i (by omega)
      obtain ⟨s, hs, hp⟩ := item_of h2
      have h3 := World.cells?_some h1
      exact ⟨s, fun j hj => (h3.2.2 j hj).trans (hs j hj), hp⟩
    have : Inhabited It := ⟨dIt⟩
    obtain ⟨F, hF⟩ := Deep.choose_lt (α := It) (p := fun i s => (∀ j, j < 4 → w.cell? ((ad.add (i * 4)).add j) = some (cellOf s j)) ∧ InR s.2.2.1) key
    have eg : ∀ i, i < len → ((List.range len).map F).getD i dIt = F i := fun i hi => by simp [List.getD, List.getElem?_range hi]
    refine ⟨hm, hl, fun e => (by cases e), (List.range len).map F, by simp, ?_, fun i hi => ?_⟩
    · by_cases h0 : len = 0
      · left; subst h0; rfl
      · have c0 := (hF 0 (by omega)).1 0 (by omega)
        have hsp : ad.spot = none := by simpa [Addr.add] using World.cell?_spot c0
        obtain ⟨b, o, sp⟩ := ad
        simp only at hsp
        subst hsp
        have hadd : ∀ i j, ((⟨b, o, none⟩ : Addr).add i).add j = ⟨b, o + i + j, none⟩ := fun i j => by rw [Go.WideShapes.add_plain, Go.WideShapes.add_plain]
        refine .inr ⟨b, o, rfl, ?_, fun i j hi hj => ?_⟩
        · have := World.block_lt_of_cell? w _ c0
          rwa [hadd] at this
        · have hi' : i < len := by simpa using hi
          rw [← hadd, eg i hi']; exact (hF i hi').1 j hj
    · have hi' : i < len := by simpa using hi
      rw [eg i hi']
      exact (hF i hi').2
end
end Go.Proofs.Qxb6627403aFmt
