/-
  canon, cellLess, sameUnordered. Seat b6630866a.
-/
import Derived.Test.Qxb6630866aLook
import Derived.Test.Qxb6630866aPlain2
import Derived.BigQuiet
import Derived.Deep.QuietTactic
namespace Go.Proofs.Qxb6630866a
open Go.RowKit Go.Maps
set_option linter.unusedVariables false
attribute [local go_sem ↓] Go.wp_at_zero Go.wp_at_succ

def lessC (a b : Ce) : Bool := if a.1 = b.1 then decide (a.2 < b.2) else decide (a.1 < b.1)

theorem cellLess_any (ax ay bx b_y : Int) (w : World) :
    Calls Try.prog 28 #[.agg #[.int .i64 ax, .int .i64 ay], .agg #[.int .i64 bx, .int .i64 b_y]] w fun e w' =>
      e = .returned (.bool (lessC (ax, ay) (bx, b_y))) ∧ Below w.heap.size w w' := by
  by_cases h : ax = bx
  · subst h
    have e1 : lessC (ax, ay) (ax, b_y) = decide (ay < b_y) := by simp [lessC]
    rw [e1]
    clear e1
    go_enter Try.func28, Try.ntmps28
    go_wp2
    go_ret
    exact ⟨rfl, ((Below.refl _ _).alloc (Nat.le_refl _) _).alloc (by simp) _⟩
  · have e1 : lessC (ax, ay) (bx, b_y) = decide (ax < bx) := by simp [lessC, h]
    rw [e1]
    have h2 : (ax != bx) = true := by simp [h]
    clear e1 h
    go_enter Try.func28, Try.ntmps28
    go_wp2
    go_ret
    exact ⟨rfl, ((Below.refl _ _).alloc (Nat.le_refl _) _).alloc (by simp) _⟩

theorem less_key (a b c d : Int) : keyE (a, b, c, d) = if lessC (c, d) (a, b) then (c, d, a, b) else (a, b, c, d) := by
  unfold keyE lessC flipE
  simp only
  by_cases h : c = a
  · subst h; simp
  · simp [h]

set_option maxHeartbeats 400000 in
theorem canon_any (a b c d : Int) (w : World) :
    Calls Try.prog 11 #[.agg #[.int .i64 a, .int .i64 b, .int .i64 c, .int .i64 d]] w fun e w' =>
      e = .returned (.agg #[.int .i64 (keyE (a, b, c, d)).1, .int .i64 (keyE (a, b, c, d)).2.1, .int .i64 (keyE (a, b, c, d)).2.2.1, .int .i64 (keyE (a, b, c, d)).2.2.2]) ∧ Below w.heap.size w w' := by
  cases hl : lessC (c, d) (a, b)
  · have e1 : keyE (a, b, c, d) = (a, b, c, d) := by rw [less_key, hl]; rfl
    rw [e1]
    clear e1
    go_enter Try.func11, Try.ntmps11
    go_wp2_with fail
    refine (cellLess_any c d a b _).mono ?_
    rintro e w1 ⟨rfl, hb⟩
    rw [hl]
    obtain ⟨hc, hf⟩ := bcell hb
    have hz : w.heap.size + 1 < w1.heap.size := by have := hb.size; simp at this; omega
    go_wp2
    refine bodyPost_ret (v := .agg #[.int .i64 a, .int .i64 b, .int .i64 c, .int .i64 d]) (by simp [results, Try.results11, go_sem, hc]) rfl ⟨rfl, ?_⟩
    have hb0 : Below w.heap.size w w1 := (((Below.refl _ _).alloc (Nat.le_refl _) _).alloc (by simp) _).trans (hb.mono (by simp; omega))
    exact (((hb0.setCell (by show w.heap.size ≤ w.heap.size + 1; omega) _).setCell (by show w.heap.size ≤ w.heap.size + 1; omega) _).setCell (by show w.heap.size ≤ w.heap.size + 1; omega) _).setCell (by show w.heap.size ≤ w.heap.size + 1; omega) _
  · have e1 : keyE (a, b, c, d) = (c, d, a, b) := by rw [less_key, hl]; rfl
    rw [e1]
    clear e1
    go_enter Try.func11, Try.ntmps11
    go_wp2_with fail
    refine (cellLess_any c d a b _).mono ?_
    rintro e w1 ⟨rfl, hb⟩
    rw [hl]
    obtain ⟨hc, hf⟩ := bcell hb
    have hz : w.heap.size + 1 < w1.heap.size := by have := hb.size; simp at this; omega
    have hb0 : Below w.heap.size w w1 := (((Below.refl _ _).alloc (Nat.le_refl _) _).alloc (by simp) _).trans (hb.mono (by simp; omega))
    go_wp2_with fail
    refine (flip_any a b c d _).mono ?_
    rintro e w2 ⟨rfl, hb2⟩
    obtain ⟨hc2, hf2⟩ := bcell hb2
    have hz2 : w.heap.size + 1 < w2.heap.size := by have := hb2.size; omega
    have hb3 : Below w.heap.size w w2 := hb0.trans (hb2.mono hb0.size)
    go_wp2
    refine bodyPost_ret (v := .agg #[.int .i64 c, .int .i64 d, .int .i64 a, .int .i64 b]) (by simp [results, Try.results11, go_sem, hc, hc2, hz]) rfl ⟨rfl, ?_⟩
    exact (((hb3.setCell (by show w.heap.size ≤ w.heap.size + 1; omega) _).setCell (by show w.heap.size ≤ w.heap.size + 1; omega) _).setCell (by show w.heap.size ≤ w.heap.size + 1; omega) _).setCell (by show w.heap.size ≤ w.heap.size + 1; omega) _

/-- sameUnordered. -/
theorem same_eq_any (a b c d : Int) (ho : Ed.ok (a, b, c, d)) (w : World) :
    Calls Try.prog 27 #[.agg #[.int .i64 a, .int .i64 b, .int .i64 c, .int .i64 d], .agg #[.int .i64 a, .int .i64 b, .int .i64 c, .int .i64 d]] w fun e w' =>
      e = .returned (.bool true) ∧ Below w.heap.size w w' := by
  have E := eqlE (a, b, c, d) (a, b, c, d) ho ho
  simp only [decide_true] at E
  go_enter Try.func27, Try.ntmps27
  go_wp2
  go_quiet (fail)
  go_wp2
  go_ret
  exact ⟨rfl, below_drewN (((Below.refl _ _).alloc (Nat.le_refl _) _).alloc (by simp) _) _⟩

set_option maxHeartbeats 400000 in
theorem same_ne_any (a b c d a' b' c' d' : Int) (ho : Ed.ok (a, b, c, d)) (ho' : Ed.ok (a', b', c', d')) (hne : (a, b, c, d) ≠ (a', b', c', d')) (w : World) :
    Calls Try.prog 27 #[.agg #[.int .i64 a, .int .i64 b, .int .i64 c, .int .i64 d], .agg #[.int .i64 a', .int .i64 b', .int .i64 c', .int .i64 d']] w fun e w' =>
      e = .returned (.bool (decide ((a, b, c, d) = flipE (a', b', c', d')))) ∧ Below w.heap.size w w' := by
  have E := eqlE (a, b, c, d) (a', b', c', d') ho ho'
  have E2 := eqlE (a, b, c, d) (flipE (a', b', c', d')) ho (ok_flip ho')
  rw [decide_eq_false hne] at E
  generalize hx : decide ((a, b, c, d) = flipE (a', b', c', d')) = x at E2 ⊢
  simp only [flipE] at E E2
  clear hx hne
  go_enter Try.func27, Try.ntmps27
  go_wp2
  have hB : Below w.heap.size w ((w.alloc (.cells #[.int .i64 a, .int .i64 b, .int .i64 c, .int .i64 d] 37)).alloc (.cells #[.int .i64 a', .int .i64 b', .int .i64 c', .int .i64 d'] 37)).drew := (((Below.refl _ _).alloc (Nat.le_refl _) _).alloc (by simp) _).drew
  go_region_held3 (fun w' => w'.cell? ⟨w.heap.size, 0, none⟩ = some (.int .i64 a) ∧ w'.cell? ⟨w.heap.size, 1, none⟩ = some (.int .i64 b) ∧ w'.cell? ⟨w.heap.size, 2, none⟩ = some (.int .i64 c) ∧ w'.cell? ⟨w.heap.size, 3, none⟩ = some (.int .i64 d) ∧
      w'.cell? ⟨w.heap.size + 1, 0, none⟩ = some (.int .i64 a') ∧ w'.cell? ⟨w.heap.size + 1, 1, none⟩ = some (.int .i64 b') ∧ w'.cell? ⟨w.heap.size + 1, 2, none⟩ = some (.int .i64 c') ∧ w'.cell? ⟨w.heap.size + 1, 3, none⟩ = some (.int .i64 d'))
    (first | (simp [go_sem]; done) | (simp [*]; done) | (refine ⟨cell_kept hb1 ?_, cell_kept hb1 ?_, cell_kept hb1 ?_, cell_kept hb1 ?_, cell_kept hb1 ?_, cell_kept hb1 ?_, cell_kept hb1 ?_, cell_kept hb1 ?_⟩ <;> simp [go_sem]))
    (first | (go_at_call 13; refine (flip_any _ _ _ _ _).mono ?_; rintro e w1 ⟨rfl, hb1⟩; have hB := hB.trans (hb1.mono hB.size)))
  go_wp2
  go_ret
  exact ⟨rfl, hB⟩

theorem same_any (x y : Ed) (hx : Ed.ok x) (hy : Ed.ok y) (w : World) :
    Calls Try.prog 27 #[.agg #[.int .i64 x.1, .int .i64 x.2.1, .int .i64 x.2.2.1, .int .i64 x.2.2.2], .agg #[.int .i64 y.1, .int .i64 y.2.1, .int .i64 y.2.2.1, .int .i64 y.2.2.2]] w fun e w' =>
      e = .returned (.bool (sameB x y)) ∧ Below w.heap.size w w' := by
  obtain ⟨a, b, c, d⟩ := x
  obtain ⟨a', b', c', d'⟩ := y
  by_cases h : (a, b, c, d) = (a', b', c', d')
  · have e1 : sameB (a, b, c, d) (a', b', c', d') = true := by simp only [sameB, h, decide_true, Bool.true_or]
    rw [e1]
    simp only [Prod.mk.injEq] at h
    obtain ⟨rfl, rfl, rfl, rfl⟩ := h
    exact same_eq_any a b c d hx w
  · have e1 : sameB (a, b, c, d) (a', b', c', d') = decide ((a, b, c, d) = flipE (a', b', c', d')) := by simp only [sameB, decide_eq_false h, Bool.false_or]
    rw [e1]
    exact same_ne_any a b c d a' b' c' d' hx hy h w
end Go.Proofs.Qxb6630866a
