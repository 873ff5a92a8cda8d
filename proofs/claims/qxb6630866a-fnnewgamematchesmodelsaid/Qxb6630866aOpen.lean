/-
  Slices of structs of integers, opened. Seat b6630866a.
-/
import Derived.Test.Qxb6630866aGame
import Derived.ProofKit
import Derived.OpenShut
import Derived.Deep.Slices
import Derived.ChangeOld
namespace Go.Proofs.Qxb6630866a
open Go.ChangeShapes Go.WideShapes Go.ChangeAt Go.RowKit
set_option linter.unusedVariables false

section
variable {H : Type} {enc : TypeId × Value → H} {w : World} {base : Nat} {spare : Nat → Bool} {held : Bool}

theorem ints_of_struct {t k : Nat} {fs : Array Field} {fuel : Nat} {cs : List Value} {x : DataW H × List MemPlace} (ht : Try.prog.underlying t = some (.struct fs)) (hk : fs.size = k) (hc : Try.prog.cellsOf t = k)
    (hf : ∀ j, j < k → ∃ fd, fs[j]? = some fd ∧ fd.offset = j ∧ fd.type = 3) (h : DataW.trod enc Try.prog w base spare held fuel t cs = some x) :
    cs.length = k ∧ ∀ j, j < k → ∃ n, cs[j]? = some (.int .i64 n) ∧ ok n := by
  obtain ⟨xs, n, _, rfl, hl, hlen, hfd⟩ := DataW.trod_struct ht h
  refine ⟨by omega, fun j hj => ?_⟩
  obtain ⟨fd, h1, h2, h3⟩ := hf j hj
  have h4 := hfd j fd h1
  rw [h2, h3, Try.cells3] at h4
  have hx : j < xs.length := by omega
  rw [List.getElem?_eq_getElem hx] at h4
  obtain ⟨m, e, _, hw⟩ := DataW.trod_int Try.underlying3 h4
  refine ⟨m, ?_, hw⟩
  have hj' : j < cs.length := by omega
  have : ((cs.drop j).take 1)[0]? = some (.int .i64 m) := by rw [e]; rfl
  simpa [List.getElem?_take, List.getElem?_drop] using this

theorem row_of_slice {t e k : Nat} {fs : Array Field} {a : Option Addr} {len cap : Nat} {d : DataW H} {p : List MemPlace} (ht : Try.prog.underlying t = some (.slice e)) (hes : Try.prog.underlying e = some (.struct fs)) (hk : fs.size = k) (hk0 : 0 < k) (hc : Try.prog.cellsOf e = k)
    (hf : ∀ j, j < k → ∃ fd, fs[j]? = some fd ∧ fd.offset = j ∧ fd.type = 3) (h : DataW.Trod enc Try.prog w 0 spare held t (.slice a len cap) d p) :
    len ≤ maxLen ∧ ∃ f, RowF w a len k f ∧ Fits len k f := by
  obtain ⟨fuel, hh⟩ := h
  rcases Deep.open_slice ht hh with ⟨hcs, _⟩ | ⟨ad, len', cap', m, n, D, Pl, hcs, hb, hl, hm, hmm, _, hx⟩
  · simp [Value.cells] at hcs
    obtain ⟨rfl, rfl, rfl⟩ := hcs
    exact ⟨Nat.zero_le _, fun _ _ => 0, .inl rfl, fun i j hi => absurd hi (by omega)⟩
  · simp [Value.cells] at hcs
    obtain ⟨rfl, rfl, rfl⟩ := hcs
    rw [hc] at hx
    have hlm : len ≤ m := by rw [hmm]; split <;> omega
    have key : ∀ i, i < len → ∃ g : Nat → Int, ∀ j, j < k → w.cell? ((ad.add (i * k)).add j) = some (.int .i64 (g j)) ∧ ok (g j) := by
      intro i hi
      obtain ⟨cs', h1, h2⟩ := hx i (by omega)
      obtain ⟨hlen, hi2⟩ := ints_of_struct hes hk hc hf h2
      have h3 := World.cells?_some h1
      obtain ⟨g, hg⟩ := Deep.choose_lt (α := Int) (p := fun j n => cs'[j]? = some (.int .i64 n) ∧ ok n) hi2
      exact ⟨g, fun j hj => ⟨(h3.2.2 j hj).trans (hg j hj).1, (hg j hj).2⟩⟩
    obtain ⟨F, hF⟩ := Deep.choose_lt (α := Nat → Int) (p := fun i g => ∀ j, j < k → w.cell? ((ad.add (i * k)).add j) = some (.int .i64 (g j)) ∧ ok (g j)) key
    refine ⟨by omega, F, ?_, fun i j hi hj => (hF i hi j hj).2⟩
    by_cases h0 : len = 0
    · exact .inl h0
    · have c0 := (hF 0 (by omega) 0 hk0).1
      have hsp : ad.spot = none := by simpa [Addr.add] using World.cell?_spot c0
      obtain ⟨b, o, sp⟩ := ad
      simp only at hsp
      subst hsp
      have hadd : ∀ i j, ((⟨b, o, none⟩ : Addr).add i).add j = ⟨b, o + i + j, none⟩ := fun i j => by rw [Go.WideShapes.add_plain, Go.WideShapes.add_plain]
      refine .inr ⟨b, o, rfl, ?_, fun i j hi hj => ?_⟩
      · have := World.block_lt_of_cell? w _ c0
        rwa [hadd] at this
      · rw [← hadd]; exact (hF i hi j hj).1
end
end Go.Proofs.Qxb6630866a
