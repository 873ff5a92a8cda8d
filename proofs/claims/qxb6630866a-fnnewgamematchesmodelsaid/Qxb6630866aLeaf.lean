/-
  The small functions of seat b6630866a.
-/
import Derived.Test.Qxb6630866aKeys
import Derived.WalkSmall
import Derived.Laws.ResultCell
namespace Go.Proofs.Qxb6630866a
open Go.RowKit
set_option linter.unusedVariables false

theorem bcell {W w1 : World} (hb : Below W.heap.size W w1) : (∀ b o, b < W.heap.size → w1.cell? ⟨b, o, none⟩ = W.cell? ⟨b, o, none⟩) ∧ (∀ b o, b < W.heap.size → w1.frozen? ⟨b, o, none⟩ = W.frozen? ⟨b, o, none⟩) :=
  ⟨fun b o h => hb.cell (p := ⟨b, o, none⟩) h, fun b o h => hb.frozen (p := ⟨b, o, none⟩) h⟩

theorem edgeOf_any (ax ay bx b_y : Int) (w : World) :
    Calls Try.prog 12 #[.agg #[.int .i64 ax, .int .i64 ay, .int .i64 bx, .int .i64 b_y]] w fun e w' =>
      e = .returned (.agg #[.int .i64 ax, .int .i64 ay, .int .i64 bx, .int .i64 b_y]) ∧ Below w.heap.size w w' := by
  go_enter Try.func12, Try.ntmps12
  go_wp2
  exact bodyPost_ret (v := .agg #[.int .i64 ax, .int .i64 ay, .int .i64 bx, .int .i64 b_y]) (by simp [results, Try.results12, go_sem]) rfl ⟨rfl, ((Below.refl _ _).alloc (Nat.le_refl _) _).alloc (by simp) _⟩

theorem mudEdgeOf_any (ax ay bx b_y t : Int) (w : World) :
    Calls Try.prog 16 #[.agg #[.int .i64 ax, .int .i64 ay, .int .i64 bx, .int .i64 b_y, .int .i64 t]] w fun e w' =>
      e = .returned (.agg #[.int .i64 ax, .int .i64 ay, .int .i64 bx, .int .i64 b_y]) ∧ Below w.heap.size w w' := by
  go_enter Try.func16, Try.ntmps16
  go_wp2
  exact bodyPost_ret (v := .agg #[.int .i64 ax, .int .i64 ay, .int .i64 bx, .int .i64 b_y]) (by simp [results, Try.results16, go_sem]) rfl ⟨rfl, ((Below.refl _ _).alloc (Nat.le_refl _) _).alloc (by simp) _⟩

theorem flip_any (ax ay bx b_y : Int) (w : World) :
    Calls Try.prog 13 #[.agg #[.int .i64 ax, .int .i64 ay, .int .i64 bx, .int .i64 b_y]] w fun e w' =>
      e = .returned (.agg #[.int .i64 bx, .int .i64 b_y, .int .i64 ax, .int .i64 ay]) ∧ Below w.heap.size w w' := by
  go_enter Try.func13, Try.ntmps13
  go_wp2
  exact bodyPost_ret (v := .agg #[.int .i64 bx, .int .i64 b_y, .int .i64 ax, .int .i64 ay]) (by simp [results, Try.results13, go_sem]) rfl ⟨rfl, ((Below.refl _ _).alloc (Nat.le_refl _) _).alloc (by simp) _⟩

/-- The edge with its lesser cell first. -/
def flipE (e : Ed) : Ed := (e.2.2.1, e.2.2.2, e.1, e.2.1)
def keyE (e : Ed) : Ed := if e.2.2.1 < e.1 ∨ (e.2.2.1 = e.1 ∧ e.2.2.2 < e.2.1) then flipE e else e

theorem key_any (ax ay bx b_y : Int) (w : World) :
    Calls Try.prog 26 #[.agg #[.int .i64 ax, .int .i64 ay, .int .i64 bx, .int .i64 b_y]] w fun e w' =>
      e = .returned (ev (keyE (ax, ay, bx, b_y))) ∧ Below w.heap.size w w' := by
  by_cases h1 : bx < ax
  · have e1 : keyE (ax, ay, bx, b_y) = (bx, b_y, ax, ay) := by simp [keyE, flipE, h1]
    rw [e1]
    clear e1
    go_enter Try.func26, Try.ntmps26
    go_wp2
    exact bodyPost_ret (v := .agg #[.int .i64 bx, .int .i64 b_y, .int .i64 ax, .int .i64 ay]) (by simp [results, Try.results26, go_sem]) rfl ⟨rfl, ((Below.refl _ _).alloc (Nat.le_refl _) _).alloc (by simp) _⟩
  · by_cases h2 : bx = ax
    · subst h2
      by_cases h3 : b_y < ay
      · have e1 : keyE (bx, ay, bx, b_y) = (bx, b_y, bx, ay) := by simp [keyE, flipE, h3]
        rw [e1]
        clear e1
        go_enter Try.func26, Try.ntmps26
        go_wp2
        exact bodyPost_ret (v := .agg #[.int .i64 bx, .int .i64 b_y, .int .i64 bx, .int .i64 ay]) (by simp [results, Try.results26, go_sem]) rfl ⟨rfl, ((Below.refl _ _).alloc (Nat.le_refl _) _).alloc (by simp) _⟩
      · have e1 : keyE (bx, ay, bx, b_y) = (bx, ay, bx, b_y) := by simp [keyE, h3]
        rw [e1]
        clear e1
        go_enter Try.func26, Try.ntmps26
        go_wp2
        exact bodyPost_ret (v := .agg #[.int .i64 bx, .int .i64 ay, .int .i64 bx, .int .i64 b_y]) (by simp [results, Try.results26, go_sem]) rfl ⟨rfl, ((Below.refl _ _).alloc (Nat.le_refl _) _).alloc (by simp) _⟩
    · have e1 : keyE (ax, ay, bx, b_y) = (ax, ay, bx, b_y) := by simp [keyE, h1, h2]
      rw [e1]
      clear e1
      have h4 : (bx == ax) = false := by simp [h2]
      go_enter Try.func26, Try.ntmps26
      go_wp2
      exact bodyPost_ret (v := .agg #[.int .i64 ax, .int .i64 ay, .int .i64 bx, .int .i64 b_y]) (by simp [results, Try.results26, go_sem]) rfl ⟨rfl, ((Below.refl _ _).alloc (Nat.le_refl _) _).alloc (by simp) _⟩

theorem ZZMaze_any (g : Nat) (v : Value) (p : Option Addr) (w : World) (h : w.cell? ⟨g, 0, none⟩ = some (.pointer p)) :
    Calls Try.prog 8 #[.pointer (some ⟨g, 0, none⟩)] w fun e w' => e = .returned (.pointer p) ∧ w = w' := by
  go_enter Try.func8, Try.ntmps8
  go_wp2
  go_ret
  exact ⟨rfl, rfl⟩
theorem ZZWalls_any (g : Nat) (m : Option Nat) (w : World) (h : w.cell? ⟨g, 1, none⟩ = some (.map m)) :
    Calls Try.prog 9 #[.pointer (some ⟨g, 0, none⟩)] w fun e w' => e = .returned (.map m) ∧ w = w' := by
  go_enter Try.func9, Try.ntmps9
  go_wp2
  go_ret
  exact ⟨rfl, rfl⟩
theorem ZZMud_any (g : Nat) (m : Option Nat) (w : World) (h : w.cell? ⟨g, 2, none⟩ = some (.map m)) :
    Calls Try.prog 14 #[.pointer (some ⟨g, 0, none⟩)] w fun e w' => e = .returned (.map m) ∧ w = w' := by
  go_enter Try.func14, Try.ntmps14
  go_wp2
  go_ret
  exact ⟨rfl, rfl⟩
theorem ZZCheese_any (g : Nat) (m : Option Nat) (w : World) (h : w.cell? ⟨g, 3, none⟩ = some (.map m)) :
    Calls Try.prog 18 #[.pointer (some ⟨g, 0, none⟩)] w fun e w' => e = .returned (.map m) ∧ w = w' := by
  go_enter Try.func18, Try.ntmps18
  go_wp2
  go_ret
  exact ⟨rfl, rfl⟩
theorem ZZPlayerAt_any (g i : Nat) (x y : Int) (w : World) (hi : i < 2) (hx : w.cell? ⟨g, 4 + i * 5, none⟩ = some (.int .i64 x)) (hy : w.cell? ⟨g, 4 + i * 5 + 1, none⟩ = some (.int .i64 y)) (hg : g < w.heap.size) :
    Calls Try.prog 20 #[.pointer (some ⟨g, 0, none⟩), .int .i64 i] w fun e w' => e = .returned (.agg #[.int .i64 x, .int .i64 y]) ∧ Below w.heap.size w w' := by
  match i, hi with
  | 0, _ =>
    simp only [Nat.zero_mul, Nat.add_zero] at hx hy
    go_enter Try.func20, Try.ntmps20
    go_wp2
    exact bodyPost_ret (v := .agg #[.int .i64 x, .int .i64 y]) (by simp [results, Try.results20, go_sem]) rfl ⟨rfl, (Below.refl _ _).alloc (Nat.le_refl _) _⟩
  | 1, _ =>
    simp only [Nat.one_mul, Nat.reduceAdd] at hx hy
    go_enter Try.func20, Try.ntmps20
    go_wp2
    exact bodyPost_ret (v := .agg #[.int .i64 x, .int .i64 y]) (by simp [results, Try.results20, go_sem]) rfl ⟨rfl, (Below.refl _ _).alloc (Nat.le_refl _) _⟩
theorem ZZPlayerTo_any (g i : Nat) (x y : Int) (w : World) (hi : i < 2) (hx : w.cell? ⟨g, 4 + i * 5 + 3, none⟩ = some (.int .i64 x)) (hy : w.cell? ⟨g, 4 + i * 5 + 4, none⟩ = some (.int .i64 y)) (hg : g < w.heap.size) :
    Calls Try.prog 22 #[.pointer (some ⟨g, 0, none⟩), .int .i64 i] w fun e w' => e = .returned (.agg #[.int .i64 x, .int .i64 y]) ∧ Below w.heap.size w w' := by
  match i, hi with
  | 0, _ =>
    simp only [Nat.zero_mul, Nat.add_zero, Nat.reduceAdd] at hx hy
    go_enter Try.func22, Try.ntmps22
    go_wp2
    exact bodyPost_ret (v := .agg #[.int .i64 x, .int .i64 y]) (by simp [results, Try.results22, go_sem]) rfl ⟨rfl, (Below.refl _ _).alloc (Nat.le_refl _) _⟩
  | 1, _ =>
    simp only [Nat.one_mul, Nat.reduceAdd] at hx hy
    go_enter Try.func22, Try.ntmps22
    go_wp2
    exact bodyPost_ret (v := .agg #[.int .i64 x, .int .i64 y]) (by simp [results, Try.results22, go_sem]) rfl ⟨rfl, (Below.refl _ _).alloc (Nat.le_refl _) _⟩
theorem ZZPlayerStuck_any (g i : Nat) (x : Int) (w : World) (hi : i < 2) (hx : w.cell? ⟨g, 4 + i * 5 + 2, none⟩ = some (.int .i64 x)) :
    Calls Try.prog 21 #[.pointer (some ⟨g, 0, none⟩), .int .i64 i] w fun e w' => e = .returned (.int .i64 x) ∧ w = w' := by
  match i, hi with
  | 0, _ =>
    simp only [Nat.zero_mul, Nat.add_zero, Nat.reduceAdd] at hx
    go_enter Try.func21, Try.ntmps21
    go_wp2
    go_ret
    exact ⟨rfl, rfl⟩
  | 1, _ =>
    simp only [Nat.one_mul, Nat.reduceAdd] at hx
    go_enter Try.func21, Try.ntmps21
    go_wp2
    go_ret
    exact ⟨rfl, rfl⟩
theorem ZZScore_any (g i : Nat) (x : Int) (w : World) (hi : i < 2) (hx : w.cell? ⟨g, 14 + i, none⟩ = some (.int .i64 x)) :
    Calls Try.prog 23 #[.pointer (some ⟨g, 0, none⟩), .int .i64 i] w fun e w' => e = .returned (.int .i64 x) ∧ w = w' := by
  match i, hi with
  | 0, _ =>
    simp only [Nat.add_zero] at hx
    go_enter Try.func23, Try.ntmps23
    go_wp2
    go_ret
    exact ⟨rfl, rfl⟩
  | 1, _ =>
    simp only [Nat.reduceAdd] at hx
    go_enter Try.func23, Try.ntmps23
    go_wp2
    go_ret
    exact ⟨rfl, rfl⟩

/-- The byte counters. -/
theorem bytesA_any (x0 x1 x5 x6 x7 x8 : Int) (a2 a3 a4 : Option Addr) (n2 c2 n3 c3 n4 c4 : Nat) (w : World) (h2 : n2 ≤ maxLen) (h3 : n3 ≤ maxLen) (h4 : n4 ≤ maxLen) :
    Calls Try.prog 24 #[.int .i64 x0, .int .i64 x1, .slice a2 n2 c2, .slice a3 n3 c3, .slice a4 n4 c4, .int .i64 x5, .int .i64 x6, .int .i64 x7, .int .i64 x8] w fun e w' =>
      e = .returned (.bool (decide (n2 + n3 + n4 ≤ 1048576))) ∧ w = w' := by
  unfold maxLen at h2 h3 h4
  by_cases h : n2 + n3 + n4 ≤ 1048576
  · go_enter Try.func24, Try.ntmps24
    go_wp2
    go_ret
    exact ⟨by simp [h], rfl⟩
  · by_cases k2 : n2 ≤ 1048576
    · by_cases k3 : n3 ≤ 1048576
      · by_cases k23 : n2 + n3 ≤ 1048576
        · by_cases k4 : n4 ≤ 1048576
          all_goals
            go_enter Try.func24, Try.ntmps24
            go_wp2
            go_ret
            exact ⟨by simp [h], rfl⟩
        · go_enter Try.func24, Try.ntmps24
          go_wp2
          go_ret
          exact ⟨by simp [h], rfl⟩
      · go_enter Try.func24, Try.ntmps24
        go_wp2
        go_ret
        exact ⟨by simp [h], rfl⟩
    · go_enter Try.func24, Try.ntmps24
      go_wp2
      go_ret
      exact ⟨by simp [h], rfl⟩
theorem bytesB_any (x0 x1 x5 x6 x7 x8 : Int) (a2 a3 a4 : Option Addr) (n2 c2 n3 c3 n4 c4 : Nat) (w : World) (h2 : n2 ≤ maxLen) (h3 : n3 ≤ maxLen) (h4 : n4 ≤ maxLen) :
    Calls Try.prog 5 #[.int .i64 x0, .int .i64 x1, .slice a2 n2 c2, .slice a3 n3 c3, .slice a4 n4 c4, .int .i64 x5, .int .i64 x6, .int .i64 x7, .int .i64 x8] w fun e w' =>
      e = .returned (.bool (decide (n2 + n3 + n4 ≤ 1048576))) ∧ w = w' := by
  unfold maxLen at h2 h3 h4
  by_cases h : n2 + n3 + n4 ≤ 1048576
  · go_enter Try.func5, Try.ntmps5
    go_wp2
    go_ret
    exact ⟨by simp [h], rfl⟩
  · by_cases k2 : n2 ≤ 1048576
    · by_cases k3 : n3 ≤ 1048576
      · by_cases k23 : n2 + n3 ≤ 1048576
        · by_cases k4 : n4 ≤ 1048576
          all_goals
            go_enter Try.func5, Try.ntmps5
            go_wp2
            go_ret
            exact ⟨by simp [h], rfl⟩
        · go_enter Try.func5, Try.ntmps5
          go_wp2
          go_ret
          exact ⟨by simp [h], rfl⟩
      · go_enter Try.func5, Try.ntmps5
        go_wp2
        go_ret
        exact ⟨by simp [h], rfl⟩
    · go_enter Try.func5, Try.ntmps5
      go_wp2
      go_ret
      exact ⟨by simp [h], rfl⟩
end Go.Proofs.Qxb6630866a
