/-
  The walks of exactSum (13) and matchesSum (9). Seat b6627403aF.
-/
import Derived.Test.Qxb6627403aFmtLeaf
import Derived.Laws.MathBits
namespace Go.Proofs.Qxb6627403aFmt
open Go.RowKit
set_option linter.unusedVariables false
attribute [local go_sem ↓] Go.wp_at_zero Go.wp_at_succ

set_option maxRecDepth 100000 in
set_option maxHeartbeats 1000000 in
theorem exact_any (a : Option Addr) (n c : Nat) (L : List It) (w : World) (hl : L.length = n) (hr : RowL w a L) (hg : Rng L) (hn : n ≤ 16384) :
    Calls Tryf.prog 13 #[.slice a n c] w fun e w' => ((fits (sumL L) ∧ e = .returned (.tuple #[.int .i64 (sumL L), .bool true])) ∨ (¬ fits (sumL L) ∧ e = .returned (.tuple #[.int .i64 0, .bool false]))) ∧ w = w' := by
  go_enter Tryf.func13, Tryf.ntmps13
  go_wp2
  go_loopw [4, 5, 6] (fun vh vl vi wr => ∃ (k : Nat) (h l : Int), vh = .int .i64 h ∧ vl = .int .u64 l ∧ vi = .int .i64 k ∧ k ≤ n ∧ 0 ≤ l ∧ l ≤ k * 4294967295 ∧ h * 4294967296 + l = sumL (L.take k) ∧ -(k : Int) * 2147483648 ≤ h ∧ h ≤ k * 2147483648 ∧ wr = w) (fun _ _ vi _ => n - (intOf vi).toNat)
  case atStart => exact ⟨0, 0, 0, rfl, rfl, rfl, Nat.zero_le _, by omega, by omega, rfl, by omega, by omega, rfl⟩
  case round =>
    obtain ⟨k, h, l, rfl, rfl, rfl, hk, hl0, hl1, hsum, hh0, hh1, rfl⟩ := hrel
    by_cases hlt : k < n
    · rcases hr with hr | ⟨b, o, e, hbl, hc⟩
      · subst hr; simp at hl; omega
      subst e
      have q2 := hc k 2 (by omega) (by omega)
      have hst := sumL_take L k (by omega)
      have hgk := hg k (by omega)
      generalize L.getD k dIt = s at q2 hst hgk
      obtain ⟨s0, s1, v, s3⟩ := s
      simp only [cellOf, InR] at q2 hst hgk
      have hi1' : (0 : Int) ≤ (k : Int) := by omega
      have hi2' : (k : Int) < (n : Int) := by omega
      have Hst : Hid (sumL (L.take (k + 1)) = sumL (L.take k) + v) := hst
      have Hsum : Hid (h * 4294967296 + l = sumL (L.take k)) := hsum
      clear hc hst hsum
      go_wp2
      go_roundw
      case rel =>
        have e4 := Hst.out
        have e5 := Hsum.out
        exact ⟨k + 1, _, _, rfl, rfl, by go_num, by omega, by omega, by omega, by omega, by omega, by omega, trivial⟩
      case measure => simp [intOf]; omega
    · obtain rfl : k = n := by omega
      have e1 : L.take k = L := List.take_of_length_le (by omega)
      rw [e1] at hsum
      have hand : bits .and .u64 l 4294967295 = l % 4294967296 := and_low32 l hl0 (by omega)
      have Hsum : Hid (h * 4294967296 + l = sumL L) := hsum
      clear hsum
      go_wp2
      all_goals (have hs := Hsum.out)
      all_goals first
        | (have hf : ¬ fits (sumL L) := (by unfold fits; omega)
           go_ret2
           exact ⟨.inr ⟨hf, rfl⟩, rfl⟩)
        | (have hf : fits (sumL L) := (by unfold fits; omega)
           go_ret2
           refine ⟨.inl ⟨hf, ?_⟩, rfl⟩
           have e9 : (h + l / 4294967296) * 4294967296 + l % 4294967296 = sumL L := by omega
           rw [← e9]
           rfl)

set_option maxRecDepth 100000 in
set_option maxHeartbeats 1000000 in
theorem matches_any (a : Option Addr) (n c : Nat) (L : List It) (t : Int) (f : Bool) (w : World) (hl : L.length = n) (hr : RowL w a L) (hg : Rng L) (hn : n ≤ 16384)
    (h : (fits (sumL L) ∧ t = sumL L ∧ f = false) ∨ (¬ fits (sumL L) ∧ t = 0 ∧ f = true)) :
    Calls Tryf.prog 9 #[.int .i64 t, .bool f, .slice a n c] w fun e w' => e = .returned (.bool true) ∧ w = w' := by
  have ce := exact_any a n c L w hl hr hg hn
  generalize sumL L = S at *
  rcases h with ⟨hf, rfl, rfl⟩ | ⟨hf, rfl, rfl⟩
  · have ce2 : Calls Tryf.prog 13 #[.slice a n c] w fun e w' => e = .returned (.tuple #[.int .i64 t, .bool true]) ∧ w = w' := ce.mono fun e w' h => by
      rcases h with ⟨⟨_, h⟩ | ⟨h, _⟩, hw⟩
      · exact ⟨h, hw⟩
      · exact absurd hf h
    clear ce
    go_enter Tryf.func9, Tryf.ntmps9
    go_wp2_with (go_at_call 13; refine ce2.mono ?_; rintro e wK ⟨rfl, rfl⟩)
    go_ret
    exact ⟨rfl, rfl⟩
  · have ce2 : Calls Tryf.prog 13 #[.slice a n c] w fun e w' => e = .returned (.tuple #[.int .i64 0, .bool false]) ∧ w = w' := ce.mono fun e w' h => by
      rcases h with ⟨⟨h, _⟩ | ⟨_, h⟩, hw⟩
      · exact absurd h hf
      · exact ⟨h, hw⟩
    clear ce
    go_enter Tryf.func9, Tryf.ntmps9
    go_wp2_with (go_at_call 13; refine ce2.mono ?_; rintro e wK ⟨rfl, rfl⟩)
    go_ret
    exact ⟨rfl, rfl⟩
end Go.Proofs.Qxb6627403aFmt
