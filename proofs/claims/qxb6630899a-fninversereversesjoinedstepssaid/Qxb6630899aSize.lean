/-
  The walk of sizeOK (6). Seat b6630899a.
-/
import Derived.Test.Qxb6630899aSteps
namespace Go.Proofs.Qxb6630899a
open Go.RowKit
set_option linter.unusedVariables false
attribute [local go_sem ↓] Go.wp_at_zero Go.wp_at_succ

/-- Both paths of every step can be read. -/
def PathsOk (w : World) (L : List St) : Prop := ∀ i, i < L.length → PathOk w (L.getD i dSt).2.1 ∧ PathOk w (L.getD i dSt).2.2

/-- All lengths are small. -/
def Small (L : List St) : Prop := L.length ≤ 1048576 ∧ ∀ i, i < L.length → (L.getD i dSt).2.1.2.1 ≤ 1048576 ∧ (L.getD i dSt).2.2.2.1 ≤ 1048576

set_option maxRecDepth 100000 in
set_option maxHeartbeats 2000000 in
theorem sizeOK_any (c1 c2 c3 c4 : ByteArray) (a : Option Addr) (n c : Nat) (L : List St) (w : World) (hl : L.length = n) (hr : RowL w a L) (hp : PathsOk w L) (hs : Small L) :
    Calls Try.prog 6 #[.string c1, .string c2, .string c3, .string c4, .slice a n c] w fun e w' => ∃ x, e = .returned (.bool x) ∧ w = w' := by
  have hn : n ≤ 1048576 := hl ▸ hs.1
  go_enter Try.func6, Try.ntmps6
  go_wp2
  all_goals try (go_ret; exact ⟨_, rfl, rfl⟩)
  go_loopw [11, 12] (fun z i wr => ∃ (x : Int) (k : Nat), z = .int .i64 x ∧ i = .int .i64 k ∧ k ≤ n ∧ wr = w) (fun _ i _ => n - (intOf i).toNat)
  case atStart => exact ⟨_, 0, rfl, rfl, Nat.zero_le _, rfl⟩
  case round =>
    obtain ⟨x, k, rfl, rfl, hk, rfl⟩ := hrel
    by_cases hlt : k < n
    · rcases hr with hr | ⟨b, o, e, hbl, hc⟩
      · subst hr; simp at hl; omega
      subst e
      have q0 := hc k 0 (by omega) (by omega)
      have q1 := hc k 1 (by omega) (by omega)
      have q2 := hc k 2 (by omega) (by omega)
      have hpk := hp k (by omega)
      have hsk := hs.2 k (by omega)
      generalize L.getD k dSt = s at q0 q1 q2 hpk hsk
      obtain ⟨op, ⟨fa, fn, fc⟩, ⟨ta, tn, tc⟩⟩ := s
      simp only [cellOf, Nat.add_zero] at q0 q1 q2 hpk hsk
      obtain ⟨hpf, hpt⟩ := hpk
      obtain ⟨hsf, hst⟩ := hsk
      have hi1' : (0 : Int) ≤ (k : Int) := by omega
      have hi2' : (k : Int) < (n : Int) := by omega
      clear hc
      go_wp2
      · go_ret
        exact ⟨_, rfl, rfl⟩
      · skip
        go_loopw [11, 13] (fun z i w2 => ∃ (y : Int) (j : Nat), z = .int .i64 y ∧ i = .int .i64 j ∧ j ≤ fn ∧ w2 = wr) (fun _ i _ => fn - (intOf i).toNat)
        case atStart => exact ⟨_, 0, rfl, rfl, Nat.zero_le _, rfl⟩
        case round =>
          obtain ⟨y, j, rfl, rfl, hj, rfl⟩ := hrel
          by_cases hjl : j < fn
          · rcases hpf with hpf | ⟨b2, o2, e, hbl2, hc2⟩
            · simp only at hpf; omega
            simp only at e
            subst e
            obtain ⟨s, hs2⟩ := hc2 j hjl
            have hj1' : (0 : Int) ≤ (j : Int) := by omega
            have hj2' : (j : Int) < (fn : Int) := by omega
            clear hc2
            go_wp2
            · go_ret
              exact ⟨_, rfl, rfl⟩
            · go_roundw
              case rel => exact ⟨_, j + 1, rfl, by go_num, by omega, trivial⟩
              case measure => simp [intOf]; omega
          · obtain rfl : j = fn := by omega
            go_wp2
            go_loopw [11, 14] (fun z i w2 => ∃ (y : Int) (j : Nat), z = .int .i64 y ∧ i = .int .i64 j ∧ j ≤ tn ∧ w2 = wr) (fun _ i _ => tn - (intOf i).toNat)
            case atStart => exact ⟨_, 0, rfl, rfl, Nat.zero_le _, rfl⟩
            case round =>
              obtain ⟨y, j, rfl, rfl, hj, rfl⟩ := hrel
              by_cases hjl : j < tn
              · rcases hpt with hpt | ⟨b2, o2, e, hbl2, hc2⟩
                · simp only at hpt; omega
                simp only at e
                subst e
                obtain ⟨s, hs2⟩ := hc2 j hjl
                have hj1' : (0 : Int) ≤ (j : Int) := by omega
                have hj2' : (j : Int) < (tn : Int) := by omega
                clear hc2
                go_wp2
                · go_ret
                  exact ⟨_, rfl, rfl⟩
                · go_roundw
                  case rel => exact ⟨_, j + 1, rfl, by go_num, by omega, trivial⟩
                  case measure => simp [intOf]; omega
              · obtain rfl : j = tn := by omega
                go_wp2
                go_roundw
                case rel => exact ⟨_, k + 1, rfl, by go_num, by omega, trivial⟩
                case measure => simp [intOf]; omega
    · obtain rfl : k = n := by omega
      go_wp2
      go_ret
      exact ⟨_, rfl, rfl⟩
end Go.Proofs.Qxb6630899a
