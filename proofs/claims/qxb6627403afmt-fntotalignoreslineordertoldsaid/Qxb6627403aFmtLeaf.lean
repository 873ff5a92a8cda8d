/-
  Rows of items; the walk of sum (11). Seat b6627403aF.
-/
import Derived.Test.Qxb6627403aFmtProg
import Derived.WalkKit
import Derived.WalkSpells
import Derived.WalkSmall
import Derived.WalkLawsBesides
import Derived.Laws.Externs
import Derived.Laws.ResultCell
import Derived.BigQuiet
import Derived.Deep.QuietTactic
import Derived.Deep.Cut
import Derived.Deep.RegionHeld3
import Derived.Deep.DrawnRows
import Derived.Deep.MidRow
namespace Go.Proofs.Qxb6627403aFmt
open Go.RowKit
set_option linter.unusedVariables false
attribute [local go_sem ↓] Go.wp_at_zero Go.wp_at_succ

/-- An item: ID, name, value, available. -/
abbrev It := Int × ByteArray × Int × Bool
def dIt : It := (0, ⟨#[]⟩, 0, false)
def cellOf (s : It) : Nat → Value
  | 0 => .int .i64 s.1
  | 1 => .string s.2.1
  | 2 => .int .i64 s.2.2.1
  | _ => .bool s.2.2.2

/-- The items L lie from an address on. -/
def RowL (w : World) (a : Option Addr) (L : List It) : Prop :=
  L = [] ∨ ∃ b o, a = some ⟨b, o, none⟩ ∧ b < w.heap.size ∧ ∀ i j, i < L.length → j < 4 → w.cell? ⟨b, o + i * 4 + j, none⟩ = some (cellOf (L.getD i dIt) j)

theorem RowL.later {w w' : World} {a : Option Addr} {L : List It} (h : RowL w a L) (hb : Below w.heap.size w w') : RowL w' a L := by
  rcases h with h | ⟨b, o, e, hlt, hc⟩
  · exact .inl h
  · exact .inr ⟨b, o, e, Nat.lt_of_lt_of_le hlt hb.size, fun i j hi hj => (hb.cell (p := ⟨b, o + i * 4 + j, none⟩) hlt).trans (hc i j hi hj)⟩

theorem cell_kept {w w' : World} (hb : Below w.heap.size w w') {b q : Nat} {v : Value} (h : w.cell? ⟨b, q, none⟩ = some v) : w'.cell? ⟨b, q, none⟩ = some v :=
  (hb.cell (p := ⟨b, q, none⟩) (World.block_lt_of_cell? w ⟨b, q, none⟩ h)).trans h

def InR (x : Int) : Prop := -9223372036854775808 ≤ x ∧ x ≤ 9223372036854775807
/-- Every value is an int64. -/
def Rng (L : List It) : Prop := ∀ i, i < L.length → InR (L.getD i dIt).2.2.1

def sumL : List It → Int
  | [] => 0
  | s :: r => s.2.2.1 + sumL r

theorem sumL_append : ∀ A B, sumL (A ++ B) = sumL A + sumL B
  | [], B => by simp [sumL]
  | s :: r, B => by simp only [List.cons_append, sumL, sumL_append r B]; omega

theorem sumL_take (L : List It) (k : Nat) (hk : k < L.length) : sumL (L.take (k + 1)) = sumL (L.take k) + (L.getD k dIt).2.2.1 := by
  have e : L.getD k dIt = L[k] := by simp [List.getD, List.getElem?_eq_getElem hk]
  rw [List.take_succ_eq_append_getElem hk, sumL_append, e]
  simp [sumL]

def fits (S : Int) : Prop := -9223372036854775808 ≤ S ∧ S ≤ 9223372036854775807
def tot (S : Int) : Int := if -9223372036854775808 ≤ S ∧ S ≤ 9223372036854775807 then S else 0

theorem tot_fits {S : Int} (h : fits S) : tot S = S := if_pos h
theorem tot_not {S : Int} (h : ¬ fits S) : tot S = 0 := if_neg h

theorem Tryf.add64 (x y : Int) (hx : 0 ≤ x) (hy : 0 ≤ y) (w : World) : (callFunc 14 #[.int .u64 x, .int .u64 y, .int .u64 0]).run Tryf.prog w = .ok (.value (.tuple #[.int .u64 ((x + y) % 18446744073709551616), .int .u64 ((x + y) / 18446744073709551616)])) w := by
  rw [run_callFunc_extern Tryf.func14 (by kernel_rfl) (by kernel_rfl) (by kernel_rfl) (e := add64Entry) (by kernel_rfl), run_add64 x y 0 hx hy (by omega) (by omega)]
  simp only [Int.add_zero, Result.andThen]

set_option maxRecDepth 100000 in
set_option maxHeartbeats 1000000 in
theorem sum_any (a : Option Addr) (n c : Nat) (L : List It) (w : World) (hl : L.length = n) (hr : RowL w a L) (hg : Rng L) (hn : n ≤ 16384) :
    Calls Tryf.prog 11 #[.slice a n c] w fun e w' => ∃ b, e = .returned (.tuple #[.int .i64 (tot (sumL L)), .int .i64 b]) ∧ (b = 0 ↔ fits (sumL L)) ∧ Below w.heap.size w w' := by
  go_enter Tryf.func11, Tryf.ntmps11
  go_wp2
  go_loopw [4, 5, 12] (fun vh vl vi wr => ∃ (k : Nat) (h l : Int), vh = .int .i64 h ∧ vl = .int .u64 l ∧ vi = .int .i64 k ∧ k ≤ n ∧ 0 ≤ l ∧ l < 18446744073709551616 ∧ h * 18446744073709551616 + l = sumL (L.take k) ∧ -(k : Int) ≤ h ∧ h ≤ k ∧ Below w.heap.size w wr) (fun _ _ vi _ => n - (intOf vi).toNat)
  case atStart => exact ⟨0, 0, 0, rfl, rfl, rfl, Nat.zero_le _, by omega, by omega, rfl, by omega, by omega, Below.refl _ _⟩
  case round =>
    obtain ⟨k, h, l, rfl, rfl, rfl, hk, hl0, hl1, hsum, hh0, hh1, hB⟩ := hrel
    by_cases hlt : k < n
    · have hr' := hr.later hB
      rcases hr' with hr' | ⟨b, o, e, hbl, hc⟩
      · subst hr'; simp at hl; omega
      subst e
      have q0 := hc k 0 (by omega) (by omega)
      have q1 := hc k 1 (by omega) (by omega)
      have q2 := hc k 2 (by omega) (by omega)
      have q3 := hc k 3 (by omega) (by omega)
      have hst := sumL_take L k (by omega)
      have hgk := hg k (by omega)
      generalize L.getD k dIt = s at q0 q1 q2 q3 hst hgk
      obtain ⟨s0, s1, v, s3⟩ := s
      simp only [cellOf, Nat.add_zero, InR] at q0 q1 q2 q3 hst hgk
      have hi1' : (0 : Int) ≤ (k : Int) := by omega
      have hi2' : (k : Int) < (n : Int) := by omega
      have hbo : b ≠ wr.heap.size := by omega
      have hu : IntKind.u64.wrap v = v % 18446744073709551616 := by simp [IntKind.wrap, IntKind.bits, IntKind.signed]
      obtain ⟨u, hud⟩ : ∃ u, u = v % 18446744073709551616 := ⟨_, rfl⟩
      rw [← hud] at hu
      have hadd := fun w => Tryf.add64 l u hl0 (by omega) w
      obtain ⟨s, hsd⟩ : ∃ s, s = (l + u) % 18446744073709551616 := ⟨_, rfl⟩
      obtain ⟨cy, hcd⟩ : ∃ cy, cy = (l + u) / 18446744073709551616 := ⟨_, rfl⟩
      rw [← hsd, ← hcd] at hadd
      have hc0 : 0 ≤ cy := by omega
      have hc1 : cy ≤ 1 := by omega
      have Hu : Hid (u = v % 18446744073709551616) := hud
      have Hs : Hid (s = (l + u) % 18446744073709551616) := hsd
      have Hc : Hid (cy = (l + u) / 18446744073709551616) := hcd
      have Hst : Hid (sumL (L.take (k + 1)) = sumL (L.take k) + v) := hst
      have Hsum : Hid (h * 18446744073709551616 + l = sumL (L.take k)) := hsum
      clear hc hud hsd hcd hst hsum
      go_wp2
      go_roundw
      case rel =>
        have e1 := Hu.out
        have e2 := Hs.out
        have e3 := Hc.out
        have e4 := Hst.out
        have e5 := Hsum.out
        exact ⟨k + 1, _, s, rfl, rfl, by go_num, by omega, by omega, by omega, by omega, by omega, by omega, hB.alloc hB.size _⟩
      case measure => simp [intOf]; omega
    · obtain rfl : k = n := by omega
      have e1 : L.take k = L := List.take_of_length_le (by omega)
      rw [e1] at hsum
      go_wp2
      · have hf : ¬ fits (sumL L) := by unfold fits; simp only [wrap64] at *; omega
        go_ret2
        exact ⟨1, by rw [tot_not hf]; rfl, ⟨fun h => by omega, fun h => absurd h hf⟩, hB⟩
      · have hf : ¬ fits (sumL L) := by unfold fits; simp only [wrap64] at *; omega
        go_ret2
        exact ⟨-1, by rw [tot_not hf]; rfl, ⟨fun h => by omega, fun h => absurd h hf⟩, hB⟩
      · have hf : fits (sumL L) := by unfold fits; simp only [wrap64] at *; omega
        have hw : wrap64 l = sumL L := by simp only [wrap64] at *; omega
        go_ret2
        exact ⟨0, by rw [tot_fits hf, ← hw]; rfl, ⟨fun _ => hf, fun _ => rfl⟩, hB⟩
end Go.Proofs.Qxb6627403aFmt
