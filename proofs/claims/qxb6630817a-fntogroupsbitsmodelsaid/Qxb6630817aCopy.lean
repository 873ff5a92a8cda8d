/-
  'copy' of a row of bytes into a row that the call has just made; the byte counters. Seat b6630817a.
-/
import Derived.Test.Qxb6630817aWalk
import Derived.Laws.CopyOwn
namespace Go.Proofs.Qxb6630817a
open Go.RowKit
set_option linter.unusedVariables false

theorem Try.size5 : (Try.prog.info? 5).map (·.size) = some 1 := by kernel_rfl

/-- copy(zzc, a): what the walk needs of it. -/
theorem copy_run (w : World) (base g n c : Nat) (a : Option Addr) (zs : List Int) (xs : List Value) (hr : Row w a n zs) (hown : w.ownsRow base 5 1 (.slice (some ⟨g, 0, none⟩) n n) n xs) :
    ∃ w3, (∀ ty, (Builtin.copy_ #[22, 22] ty #[.slice (some ⟨g, 0, none⟩) n n, .slice a n c]).run Try.prog w = .ok (goInt n) w3) ∧ Row w3 (some ⟨g, 0, none⟩) n zs ∧ (∀ B w0, B ≤ g → Below B w0 w → Below B w0 w3) := by
  obtain ⟨hl, hB, h⟩ := hr
  rcases h with rfl | ⟨b, o, rfl, hlt, hc⟩
  · exact ⟨w, fun ty => run_copy_none w 22 22 ty 5 _ a _ _ _ _ Try.underlying22 Try.size5 (by simp), ⟨hl, hB, .inl rfl⟩, fun B w0 _ h => h⟩
  · obtain ⟨hx, h | ⟨g', cap, cur, e, hbg, hg, hnc, hcm, hsz, htk⟩⟩ := hown
    · simp at h
    · simp only [Value.slice.injEq, Option.some.injEq, Addr.mk.injEq] at e
      obtain ⟨⟨rfl, -⟩, -, rfl⟩ := e
      have hlen : (zs.map (Value.int .u8)).length = n := by simp [hl]
      refine ⟨w.setRow g (cur.toList.take 0 ++ zs.map (Value.int .u8) ++ cur.toList.drop (0 + n)).toArray, fun ty => ?_, ⟨hl, hB, .inr ⟨g, 0, rfl, ?_, ?_⟩⟩, fun B w0 hBg h => below_setRow h hBg _⟩
      · have := run_copy_row (P := Try.prog) w 22 22 ty 5 g 0 n n ⟨b, o, none⟩ n c cur 5 (zs.map (Value.int .u8)) Try.underlying22 Try.size5 hg (by simp [hl])
          (by intro j v hj
              have hj' : j < n := by have := (List.getElem?_eq_some_iff.1 hj).1; omega
              rw [Addr.add_lit, hc j hj']
              simp at hj
              obtain ⟨z, hz, rfl⟩ := hj
              simp [hz]) (by omega) (ints_oneCell _ _)
        rw [hlen] at this
        exact this
      · have := (Array.getElem?_eq_some_iff.1 hg).1
        simpa [World.setRow] using this
      · intro i hi
        rw [show 0 + i = i by omega, cell_setRow_same w g i cur _ 5 _ hg]
        simp [hl, hi]
        rw [List.getElem?_append_left (by simp; omega)]
        simp [hl, hi]

theorem bytes2_any (a0 a1 : Option Addr) (n0 c0 n1 c1 : Nat) (w : World) (h0 : n0 ≤ maxLen) (h1 : n1 ≤ maxLen) :
    Calls Try.prog 8 #[.slice a0 n0 c0, .slice a1 n1 c1] w fun e w' => e = .returned (.bool (decide (n0 + n1 ≤ 1048576))) ∧ w = w' := by
  unfold maxLen at h0 h1
  by_cases h : n0 + n1 ≤ 1048576
  · go_enter Try.func8, Try.ntmps8
    go_wp2
    go_ret
    exact ⟨by simp [h], rfl⟩
  · by_cases h2 : n0 ≤ 1048576 <;> by_cases h3 : n1 ≤ 1048576
    all_goals
      go_enter Try.func8, Try.ntmps8
      go_wp2
      go_ret
      exact ⟨by simp [h], rfl⟩

theorem bytes1_any (a0 : Option Addr) (n0 c0 : Nat) (w : World) (h0 : n0 ≤ maxLen) :
    Calls Try.prog 5 #[.slice a0 n0 c0] w fun e w' => e = .returned (.bool (decide (n0 ≤ 1048576))) ∧ w = w' := by
  unfold maxLen at h0
  by_cases h : n0 ≤ 1048576
  all_goals
    go_enter Try.func5, Try.ntmps5
    go_wp2
    go_ret
    exact ⟨by simp [h], rfl⟩
end Go.Proofs.Qxb6630817a
