/-
  FnNewGameMatchesModel (function 3) beyond its own bounds. Seat b6630866a.
-/
import Derived.Test.Qxb6630866aMatch
namespace Go.Proofs.Qxb6630866a
open Go.RowKit Go.Maps
set_option linter.unusedVariables false

set_option maxRecDepth 100000 in
set_option maxHeartbeats 1000000 in
theorem match_early (x0 x1 s0x s0y s1x s1y : Int) (a2 a3 a4 : Option Addr) (n2 k2 n3 k3 n4 k4 : Nat) (w : World) (m2 : n2 ≤ maxLen) (m3 : n3 ≤ maxLen) (m4 : n4 ≤ maxLen)
    (hh : 4096 < n2 ∨ 4096 < n3 ∨ 4096 < n4 ∨ 1048576 < n2 * 32 + n3 * 40 + n4 * 16) :
    Calls Try.prog 3 #[.int .i64 x0, .int .i64 x1, .slice a2 n2 k2, .slice a3 n3 k3, .slice a4 n4 k4, .int .i64 s0x, .int .i64 s0y, .int .i64 s1x, .int .i64 s1y] w fun e w' =>
      e = .returned (.bool true) ∧ Below w.heap.size w w' := by
  by_cases hb : n2 + n3 + n4 ≤ 1048576
  · have hbb : decide (n2 + n3 + n4 ≤ 1048576) = true := by simp; omega
    by_cases h2 : 4096 < n2
    · have hd : decide ((4096 : Int) < (n2 : Int)) = true := by simp; omega
      clear hh
      go_enter Try.func3, Try.ntmps3
      go_wp2_with (go_at_call 5; refine (bytesB_any _ _ _ _ _ _ _ _ _ _ _ _ _ _ _ _ m2 m3 m4).mono ?_; rintro e w' ⟨rfl, rfl⟩)
      go_ret
      exact ⟨rfl, Below.refl _ _⟩
    · have hd2 : decide ((4096 : Int) < (n2 : Int)) = false := by simp; omega
      by_cases h3 : 4096 < n3
      · have hd3 : decide ((4096 : Int) < (n3 : Int)) = true := by simp; omega
        clear hh
        go_enter Try.func3, Try.ntmps3
        go_wp2_with (go_at_call 5; refine (bytesB_any _ _ _ _ _ _ _ _ _ _ _ _ _ _ _ _ m2 m3 m4).mono ?_; rintro e w' ⟨rfl, rfl⟩)
        go_ret
        exact ⟨rfl, Below.refl _ _⟩
      · have hd3 : decide ((4096 : Int) < (n3 : Int)) = false := by simp; omega
        by_cases h4 : 4096 < n4
        · have hd4 : decide ((4096 : Int) < (n4 : Int)) = true := by simp; omega
          clear hh
          go_enter Try.func3, Try.ntmps3
          go_wp2_with (go_at_call 5; refine (bytesB_any _ _ _ _ _ _ _ _ _ _ _ _ _ _ _ _ m2 m3 m4).mono ?_; rintro e w' ⟨rfl, rfl⟩)
          go_ret
          exact ⟨rfl, Below.refl _ _⟩
        · omega
  · have hbb : decide (n2 + n3 + n4 ≤ 1048576) = false := by simp; omega
    clear hh
    go_enter Try.func3, Try.ntmps3
    go_wp2_with (go_at_call 5; refine (bytesB_any _ _ _ _ _ _ _ _ _ _ _ _ _ _ _ _ m2 m3 m4).mono ?_; rintro e w' ⟨rfl, rfl⟩)
    go_ret
    exact ⟨rfl, Below.refl _ _⟩
end Go.Proofs.Qxb6630866a
