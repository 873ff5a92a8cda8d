/-
  A slice of steps, opened. Seat b6630899a.
-/
import Derived.Test.Qxb6630899aSize
import Derived.ProofKit
import Derived.OpenShut
import Derived.SliceStrings
import Derived.Deep.Slices
import Derived.ChangeOld
namespace Go.Proofs.Qxb6630899a
open Go.ChangeShapes Go.WideShapes Go.ChangeAt Go.RowKit
set_option linter.unusedVariables false

theorem Try.cells9 : Try.prog.cellsOf 9 = 1 := by kernel_rfl
theorem Try.cells30 : Try.prog.cellsOf 30 = 1 := by kernel_rfl
theorem Try.cells32 : Try.prog.cellsOf 32 = 3 := by kernel_rfl

section
variable {H : Type} {enc : TypeId × Value → H} {w : World} {base : Nat} {spare : Nat → Bool} {held : Bool}

theorem path_of {fuel : Nat} {cs : List Value} {x : DataW H × List MemPlace} (h : DataW.trod enc Try.prog w base spare held fuel 30 cs = some x) :
    ∃ p : Pt, cs = [.slice p.1 p.2.1 p.2.2] ∧ PathOk w p := by
  rcases open_strings Try.underlying30 Try.underlying9 Try.cells9 h with ⟨rfl, _⟩ | ⟨ad, len, cap, ss, rfl, _, hl, _, hss, _, hc, _⟩
  · exact ⟨(none, 0, 0), rfl, .inl rfl⟩
  · refine ⟨(some ad, len, cap), rfl, ?_⟩
    have hlm : len ≤ ss.length := by rw [hss]; split <;> omega
    by_cases h0 : len = 0
    · exact .inl h0
    · have c0 := hc 0 (by omega)
      have hsp : ad.spot = none := by simpa [Addr.add] using World.cell?_spot c0
      obtain ⟨b, o, sp⟩ := ad
      simp only at hsp
      subst hsp
      refine .inr ⟨b, o, rfl, ?_, fun j hj => ⟨ss.getD j ByteArray.empty, ?_⟩⟩
      · have := World.block_lt_of_cell? w _ c0
        rwa [Go.WideShapes.add_plain] at this
      · have := hc j (by simp only at hj; omega)
        rwa [Go.WideShapes.add_plain] at this

theorem step_of {fuel : Nat} {cs : List Value} {x : DataW H × List MemPlace} (h : DataW.trod enc Try.prog w base spare held fuel 32 cs = some x) :
    ∃ s : St, (∀ j, j < 3 → cs[j]? = some (cellOf s j)) ∧ PathOk w s.2.1 ∧ PathOk w s.2.2 := by
  obtain ⟨xs, n, _, rfl, hl, hlen, hfd⟩ := DataW.trod_struct Try.underlying32 h
  have hx : xs.length = 3 := hlen
  have g0 : DataW.trod enc Try.prog w base spare held n 9 ((cs.drop 0).take (Try.prog.cellsOf 9)) = xs[0]? := hfd 0 _ rfl
  have g1 : DataW.trod enc Try.prog w base spare held n 30 ((cs.drop 1).take (Try.prog.cellsOf 30)) = xs[1]? := hfd 1 _ rfl
  have g2 : DataW.trod enc Try.prog w base spare held n 30 ((cs.drop 2).take (Try.prog.cellsOf 30)) = xs[2]? := hfd 2 _ rfl
  rw [Try.cells9] at g0
  rw [Try.cells30] at g1 g2
  rw [List.getElem?_eq_getElem (by omega)] at g0
  rw [List.getElem?_eq_getElem (by omega)] at g1
  rw [List.getElem?_eq_getElem (by omega)] at g2
  obtain ⟨s, e0, _⟩ := DataW.trod_string Try.underlying9 g0
  obtain ⟨p, e1, h1⟩ := path_of g1
  obtain ⟨q, e2, h2⟩ := path_of g2
  refine ⟨(s, p, q), ?_, h1, h2⟩
  intro j hj
  match j, hj with
  | 0, _ =>
    have : ((cs.drop 0).take 1)[0]? = some (.string s) := by rw [e0]; rfl
    simpa [List.getElem?_take, List.getElem?_drop, cellOf] using this
  | 1, _ =>
    have : ((cs.drop 1).take 1)[0]? = some (.slice p.1 p.2.1 p.2.2) := by rw [e1]; rfl
    simpa [List.getElem?_take, List.getElem?_drop, cellOf] using this
  | 2, _ =>
    have : ((cs.drop 2).take 1)[0]? = some (.slice q.1 q.2.1 q.2.2) := by rw [e2]; rfl
    simpa [List.getElem?_take, List.getElem?_drop, cellOf] using this

theorem steps_of {a : Option Addr} {len cap : Nat} {d : DataW H} {p : List MemPlace} (h : DataW.Trod enc Try.prog w 0 spare held 22 (.slice a len cap) d p) :
    len ≤ maxLen ∧ (a = none → len = 0) ∧ ∃ L, L.length = len ∧ RowL w a L ∧ PathsOk w L := by
  obtain ⟨fuel, hh⟩ := h
  rcases Deep.open_slice Try.underlying22 hh with ⟨hcs, _⟩ | ⟨ad, len', cap', m, n, D, Pl, hcs, hb, hl, hm, hmm, _, hx⟩
  · simp [Value.cells] at hcs
    obtain ⟨rfl, rfl, rfl⟩ := hcs
    exact ⟨Nat.zero_le _, fun _ => rfl, [], rfl, .inl rfl, fun i hi => absurd hi (by simp)⟩
  · simp [Value.cells] at hcs
    obtain ⟨rfl, rfl, rfl⟩ := hcs
    rw [Try.cells32] at hx
    have hlm : len ≤ m := by rw [hmm]; split <;> omega
    have key : ∀ i, i < len → ∃ s : St, (∀ j, j < 3 → w.cell? ((ad.add (i * 3)).add j) = some (cellOf s j)) ∧ PathOk w s.2.1 ∧ PathOk w s.2.2 := by
      intro i hi
      obtain ⟨cs', h1, h2⟩ := hx i (by omega)
      obtain ⟨s, hs, hp⟩ := step_of h2
      have h3 := World.cells?_some h1
      exact ⟨s, fun j hj => (h3.2.2 j hj).trans (hs j hj), hp⟩
    have : Inhabited St := ⟨dSt⟩
    obtain ⟨F, hF⟩ := Deep.choose_lt (α := St) (p := fun i s => (∀ j, j < 3 → w.cell? ((ad.add (i * 3)).add j) = some (cellOf s j)) ∧ PathOk w s.2.1 ∧ PathOk w s.2.2) key
    have eg : ∀ i, i < len → ((List.range len).map F).getD i dSt = F i := fun i hi => by simp [List.getD, List.getElem?_range hi]
    refine ⟨by omega, fun e => (by cases e), (List.range len).map F, by simp, ?_, fun i hi => ?_⟩
    · by_cases h0 : len = 0
      · left; subst h0; rfl
      · have c0 := (hF 0 (by omega)).1 0 (by omega)
        have hsp : ad.spot = none := by simpa [Addr.add] using World.cell?_spot c0
        obtain ⟨b, o, sp⟩ := ad
        simp only at hsp
        subst hsp
        have hadd : ∀ i j, ((⟨b, o, none⟩ : Addr).add i).add j = ⟨b, o + i + j, none⟩ := fun i j => by rw [Go.WideShapes.add_plain, Go.WideShapes.add_plain]
        refine .inr ⟨b, o, rfl, ?_, fun i j hi hj => ?_⟩
        · have := World.block_lt_of_cell? w _ c0
          rwa [hadd] at this
        · have hi' : i < len := by simpa using hi
          rw [← hadd, eg i hi']; exact (hF i hi').1 j hj
    · have hi' : i < len := by simpa using hi
      rw [eg i hi']
      exact (hF i hi').2
end
end Go.Proofs.Qxb6630899a
