/-
  The walks of the two zzBytes (5). Seat b6630899a.
-/
import Derived.Test.Qxb6630899aSize
namespace Go.Proofs.Qxb6630899a
open Go.RowKit
set_option linter.unusedVariables false
attribute [local go_sem ↓] Go.wp_at_zero Go.wp_at_succ

set_option maxRecDepth 100000 in
set_option maxHeartbeats 4000000 in
theorem zz5_any (c1 c2 c3 c4 : ByteArray) (a : Option Addr) (n c : Nat) (L : List St) (w : World) (hl : L.length = n) (hr : RowL w a L) (hp : PathsOk w L) :
    Calls Try.prog 5 #[.string c1, .string c2, .string c3, .string c4, .slice a n c] w fun e w' => ∃ x, e = .returned (.bool x) ∧ (x = true → Small L) ∧ w = w' := by
  go_enter Try.func5, Try.ntmps5
  go_wp2
  rotate_right
  · have hn : n ≤ 1048576 := by omega
    go_loopw [11, 12] (fun z i wr => ∃ (x : Int) (k : Nat), z = .int .i64 x ∧ i = .int .i64 k ∧ k ≤ n ∧ (∀ i, i < k → (L.getD i dSt).2.1.2.1 ≤ 1048576 ∧ (L.getD i dSt).2.2.2.1 ≤ 1048576) ∧ wr = w) (fun _ i _ => n - (intOf i).toNat)
    case atStart => exact ⟨_, 0, rfl, rfl, Nat.zero_le _, fun i hi => absurd hi (Nat.not_lt_zero _), rfl⟩
    case round =>
      obtain ⟨x, k, rfl, rfl, hk, hsm, rfl⟩ := hrel
      by_cases hlt : k < n
      · rcases hr with hr | ⟨b, o, e, hbl, hc⟩
        · subst hr; simp at hl; omega
        subst e
        have q0 := hc k 0 (by omega) (by omega)
        have q1 := hc k 1 (by omega) (by omega)
        have q2 := hc k 2 (by omega) (by omega)
        have hpk := hp k (by omega)
        generalize hs : L.getD k dSt = s at q0 q1 q2 hpk
        obtain ⟨op, ⟨fa, fn, fc⟩, ⟨ta, tn, tc⟩⟩ := s
        have Hs : Hid (L.getD k dSt = (op, (fa, fn, fc), (ta, tn, tc))) := hs
        simp only [cellOf, Nat.add_zero] at q0 q1 q2 hpk
        obtain ⟨hpf, hpt⟩ := hpk
        have hi1' : (0 : Int) ≤ (k : Int) := by omega
        have hi2' : (k : Int) < (n : Int) := by omega
        clear hc hs
        go_wp2
        rotate_right
        · skip
          have hb_fn : fn ≤ 1048576 := by omega
          go_loopw [11, 13] (fun z i w2 => ∃ (y : Int) (j : Nat), z = .int .i64 y ∧ i = .int .i64 j ∧ j ≤ fn ∧ w2 = wr) (fun _ i _ => fn - (intOf i).toNat)
          case atStart => exact ⟨_, 0, rfl, rfl, Nat.zero_le _, rfl⟩
          case round =>
            obtain ⟨y, j, rfl, rfl, hj, rfl⟩ := hrel
            by_cases hjl : j < fn
            · rcases hpf with hpf | ⟨b2, o2, e, hbl2, hc2⟩
              · simp only at hpf; omega
              simp only at e
              subst e
              obtain ⟨s, hs2⟩ := hc2 j hjl
              have hj1' : (0 : Int) ≤ (j : Int) := by omega
              have hj2' : (j : Int) < (fn : Int) := by omega
              clear hc2
              go_wp2
              rotate_right
              · go_roundw
                case rel => exact ⟨_, j + 1, rfl, by go_num, by omega, trivial⟩
                case measure => simp [intOf]; omega
              all_goals (go_ret; exact ⟨false, rfl, by simp, rfl⟩)
            · obtain rfl : j = fn := by omega
              go_wp2
              rotate_right
              · skip
                have hb_tn : tn ≤ 1048576 := by omega
                go_loopw [11, 14] (fun z i w2 => ∃ (y : Int) (j : Nat), z = .int .i64 y ∧ i = .int .i64 j ∧ j ≤ tn ∧ w2 = wr) (fun _ i _ => tn - (intOf i).toNat)
                case atStart => exact ⟨_, 0, rfl, rfl, Nat.zero_le _, rfl⟩
                case round =>
                  obtain ⟨y, j, rfl, rfl, hj, rfl⟩ := hrel
                  by_cases hjl : j < tn
                  · rcases hpt with hpt | ⟨b2, o2, e, hbl2, hc2⟩
                    · simp only at hpt; omega
                    simp only at e
                    subst e
                    obtain ⟨s, hs2⟩ := hc2 j hjl
                    have hj1' : (0 : Int) ≤ (j : Int) := by omega
                    have hj2' : (j : Int) < (tn : Int) := by omega
                    clear hc2
                    go_wp2
                    rotate_right
                    · go_roundw
                      case rel => exact ⟨_, j + 1, rfl, by go_num, by omega, trivial⟩
                      case measure => simp [intOf]; omega
                    all_goals (go_ret; exact ⟨false, rfl, by simp, rfl⟩)
                  · obtain rfl : j = tn := by omega
                    go_wp2
                    rotate_right
                    · go_roundw
                      case rel => exact ⟨_, k + 1, rfl, by go_num, by omega, fun i hi => by
                        by_cases hik : i = k
                        · subst hik; rw [(show _ = _ from Hs)]; exact ⟨hb_fn, hb_tn⟩
                        · exact hsm i (by omega), trivial⟩
                      case measure => simp [intOf]; omega
                    all_goals (go_ret; exact ⟨false, rfl, by simp, rfl⟩)
              all_goals (go_ret; exact ⟨false, rfl, by simp, rfl⟩)
        all_goals (go_ret; exact ⟨false, rfl, by simp, rfl⟩)
      · obtain rfl : k = n := by omega
        go_wp2
        go_ret
        exact ⟨_, rfl, fun _ => ⟨by omega, fun i hi => hsm i (by omega)⟩, rfl⟩
  all_goals (go_ret; exact ⟨false, rfl, by simp, rfl⟩)
end Go.Proofs.Qxb6630899a
