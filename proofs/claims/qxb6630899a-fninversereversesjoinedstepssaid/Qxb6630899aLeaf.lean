/-
  The small functions of seat b6630899a.
-/
import Derived.Test.Qxb6630899aProg
import Derived.WalkKit
import Derived.WalkSpells
import Derived.WalkSmall
import Derived.WalkLawsBesides
import Derived.Laws.ResultCell
import Derived.BigQuiet
import Derived.Deep.QuietTactic
namespace Go.Proofs.Qxb6630899a
open Go.RowKit
set_option linter.unusedVariables false

/-- A path's slice header; a step. -/
abbrev Pt := Option Addr × Nat × Nat
abbrev St := ByteArray × Pt × Pt
def bM : ByteArray := ⟨#[109, 111, 118, 101]⟩
def bW : ByteArray := ⟨#[119, 114, 97, 112]⟩
def bU : ByteArray := ⟨#[117, 110, 119, 114, 97, 112]⟩
def dSt : St := (⟨#[]⟩, (none, 0, 0), (none, 0, 0))
def isM (s : ByteArray) : Bool := s.toList == [109, 111, 118, 101]
def isW (s : ByteArray) : Bool := s.toList == [119, 114, 97, 112]
def isU (s : ByteArray) : Bool := s.toList == [117, 110, 119, 114, 97, 112]

/-- The step that undoes a step. -/
def invS (s : St) : Option St :=
  if isM s.1 then some (bM, s.2.2, s.2.1) else if isW s.1 then some (bU, s.2.2, s.2.1) else if isU s.1 then some (bW, s.2.2, s.2.1) else none

def stv (s : St) : Value := .agg #[.string s.1, .slice s.2.1.1 s.2.1.2.1 s.2.1.2.2, .slice s.2.2.1 s.2.2.2.1 s.2.2.2.2]

theorem invertible_any (s : ByteArray) (w : World) {x : Bool} (hx : (isM s || isW s || isU s) = x) :
    Calls Try.prog 9 #[.string s] w fun e w' => e = .returned (.bool x) ∧ w = w' := by
  subst hx
  unfold isM isW isU
  cases h1 : (s.toList == [109, 111, 118, 101])
  · cases h2 : (s.toList == [119, 114, 97, 112])
    · go_enter Try.func9, Try.ntmps9
      go_wp2
      go_ret
      exact ⟨by simp, rfl⟩
    · go_enter Try.func9, Try.ntmps9
      go_wp2
      go_ret
      exact ⟨rfl, rfl⟩
  · go_enter Try.func9, Try.ntmps9
    go_wp2
    go_ret
    exact ⟨rfl, rfl⟩

theorem inverse_any (s : ByteArray) (fa ta : Option Addr) (fn fc tn tc : Nat) (w : World) :
    Calls Try.prog 13 #[.agg #[.string s, .slice fa fn fc, .slice ta tn tc]] w fun e w' =>
      e = .returned (.tuple #[stv ((invS (s, (fa, fn, fc), (ta, tn, tc))).getD dSt), .bool (invS (s, (fa, fn, fc), (ta, tn, tc))).isSome]) ∧ Below w.heap.size w w' := by
  cases h1 : (s.toList == [109, 111, 118, 101])
  · cases h2 : (s.toList == [119, 114, 97, 112])
    · cases h3 : (s.toList == [117, 110, 119, 114, 97, 112])
      · have e1 : invS (s, (fa, fn, fc), (ta, tn, tc)) = none := by simp [invS, isM, isW, isU, h1, h2, h3]
        rw [e1]
        clear e1
        go_enter Try.func13, Try.ntmps13
        go_wp2
        exact bodyPost_ret (v := .tuple #[stv dSt, .bool false]) (by simp [results, Try.results13, go_sem, stv, dSt]) rfl ⟨rfl, ((Below.refl _ _).alloc (Nat.le_refl _) _).alloc (by simp) _⟩
      · have e1 : invS (s, (fa, fn, fc), (ta, tn, tc)) = some (bW, (ta, tn, tc), (fa, fn, fc)) := by simp [invS, isM, isW, isU, h1, h2, h3]
        rw [e1]
        clear e1
        go_enter Try.func13, Try.ntmps13
        go_wp2
        exact bodyPost_ret (v := .tuple #[stv (bW, (ta, tn, tc), (fa, fn, fc)), .bool true]) (by simp [results, Try.results13, go_sem, stv, bW]) rfl ⟨rfl, ((Below.refl _ _).alloc (Nat.le_refl _) _).alloc (by simp) _⟩
    · have e1 : invS (s, (fa, fn, fc), (ta, tn, tc)) = some (bU, (ta, tn, tc), (fa, fn, fc)) := by simp [invS, isM, isW, h1, h2]
      rw [e1]
      clear e1
      go_enter Try.func13, Try.ntmps13
      go_wp2
      exact bodyPost_ret (v := .tuple #[stv (bU, (ta, tn, tc), (fa, fn, fc)), .bool true]) (by simp [results, Try.results13, go_sem, stv, bU]) rfl ⟨rfl, ((Below.refl _ _).alloc (Nat.le_refl _) _).alloc (by simp) _⟩
  · have e1 : invS (s, (fa, fn, fc), (ta, tn, tc)) = some (bM, (ta, tn, tc), (fa, fn, fc)) := by simp [invS, isM, h1]
    rw [e1]
    clear e1
    go_enter Try.func13, Try.ntmps13
    go_wp2
    exact bodyPost_ret (v := .tuple #[stv (bM, (ta, tn, tc), (fa, fn, fc)), .bool true]) (by simp [results, Try.results13, go_sem, stv, bM]) rfl ⟨rfl, ((Below.refl _ _).alloc (Nat.le_refl _) _).alloc (by simp) _⟩

/-- A path that can be read: its n strings. -/
def PathOk (w : World) (p : Pt) : Prop :=
  p.2.1 = 0 ∨ ∃ b o, p.1 = some ⟨b, o, none⟩ ∧ b < w.heap.size ∧ ∀ j, j < p.2.1 → ∃ s, w.cell? ⟨b, o + j, none⟩ = some (.string s)

theorem PathOk.later {w w' : World} {p : Pt} (h : PathOk w p) (hb : Below w.heap.size w w') : PathOk w' p := by
  rcases h with h | ⟨b, o, e, hlt, hc⟩
  · exact .inl h
  · exact .inr ⟨b, o, e, Nat.lt_of_lt_of_le hlt hb.size, fun j hj => by
      obtain ⟨s, hs⟩ := hc j hj
      exact ⟨s, (hb.cell (p := ⟨b, o + j, none⟩) hlt).trans hs⟩⟩

theorem pathEq_any (p : Pt) (w : World) (hp : PathOk w p) (hn : p.2.1 ≤ 1048576) :
    Calls Try.prog 10 #[.slice p.1 p.2.1 p.2.2, .slice p.1 p.2.1 p.2.2] w fun e w' => e = .returned (.bool true) ∧ ∃ nq, w' = w.drewN nq := by
  obtain ⟨a, n, c⟩ := p
  simp only at hp hn ⊢
  go_enter Try.func10, Try.ntmps10
  go_wp2
  go_loopw [5] (fun i wr => ∃ k nq : Nat, i = .int .i64 k ∧ k ≤ n ∧ wr = w.drewN nq) (fun i _ => n - (intOf i).toNat)
  case atStart => exact ⟨0, 0, rfl, Nat.zero_le _, rfl⟩
  case round =>
    obtain ⟨k, nq, rfl, hk, rfl⟩ := hrel
    by_cases hlt : k < n
    · rcases hp with hp | ⟨b, o, e, hbl, hc⟩
      · simp only at hp; omega
      simp only at e
      subst e
      obtain ⟨s, hs⟩ := hc k hlt
      have hi1 : (0 : Int) ≤ (k : Int) := by omega
      have hi2 : (k : Int) < (n : Int) := by omega
      clear hc
      go_wp2
      go_quiet (fail)
      go_wp2
      go_roundw
      case rel => exact ⟨k + 1, _, by go_num, by omega, rfl⟩
      case measure => simp [intOf]; omega
    · go_wp2
      go_ret
      exact ⟨rfl, _, rfl⟩
theorem pathEqP_any (p : Pt) (w : World) (hp : PathOk w p) (hn : p.2.1 ≤ 1048576) :
    Calls Try.prog 14 #[.slice p.1 p.2.1 p.2.2, .slice p.1 p.2.1 p.2.2] w fun e w' => e = .returned (.bool true) ∧ ∃ nq, w' = w.drewN nq := by
  obtain ⟨a, n, c⟩ := p
  simp only at hp hn ⊢
  go_enter Try.func14, Try.ntmps14
  go_wp2
  go_loopw [5] (fun i wr => ∃ k nq : Nat, i = .int .i64 k ∧ k ≤ n ∧ wr = w.drewN nq) (fun i _ => n - (intOf i).toNat)
  case atStart => exact ⟨0, 0, rfl, Nat.zero_le _, rfl⟩
  case round =>
    obtain ⟨k, nq, rfl, hk, rfl⟩ := hrel
    by_cases hlt : k < n
    · rcases hp with hp | ⟨b, o, e, hbl, hc⟩
      · simp only at hp; omega
      simp only at e
      subst e
      obtain ⟨s, hs⟩ := hc k hlt
      have hi1 : (0 : Int) ≤ (k : Int) := by omega
      have hi2 : (k : Int) < (n : Int) := by omega
      clear hc
      go_wp2
      go_quiet (fail)
      go_wp2
      go_roundw
      case rel => exact ⟨k + 1, _, by go_num, by omega, rfl⟩
      case measure => simp [intOf]; omega
    · go_wp2
      go_ret
      exact ⟨rfl, _, rfl⟩
end Go.Proofs.Qxb6630899a
