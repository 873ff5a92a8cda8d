/-
  The walks of distinctWalls (10), distinctMud (15). Seat b6630866a.
-/
import Derived.Test.Qxb6630866aLeaf2
namespace Go.Proofs.Qxb6630866a
open Go.RowKit Go.Maps
set_option linter.unusedVariables false
attribute [local go_sem ↓] Go.wp_at_zero Go.wp_at_succ

theorem same_ed (f : Nat → Nat → Int) (q k : Nat) (hx : Ed.ok (ed f q)) (hy : Ed.ok (ed f k)) {x : Bool} (h : sameB (ed f q) (ed f k) = x) (w : World) :
    Calls Try.prog 27 #[.agg #[.int .i64 (f q 0), .int .i64 (f q 1), .int .i64 (f q 2), .int .i64 (f q 3)], .agg #[.int .i64 (f k 0), .int .i64 (f k 1), .int .i64 (f k 2), .int .i64 (f k 3)]] w fun e w' =>
      e = .returned (.bool x) ∧ Below w.heap.size w w' := by
  subst h
  exact same_any (ed f q) (ed f k) hx hy w

theorem cnt_seen {f : Nat → Nat → Int} {k : Nat} (h : seenE f k = true) : cntE f (k + 1) = cntE f k := by simp [cntE, h]
theorem cnt_new {f : Nat → Nat → Int} {k : Nat} (h : seenE f k = false) : cntE f (k + 1) = cntE f k + 1 := by simp [cntE, h]

set_option maxRecDepth 100000 in
set_option maxHeartbeats 1000000 in
theorem distinctWalls_any (a : Option Addr) (n c : Nat) (f : Nat → Nat → Int) (w : World) (r : RowF w a n 4 f) (hf : FitsE n f) (hn : n ≤ 4096) :
    Calls Try.prog 10 #[.slice a n c] w fun e w' => e = .returned (.int .i64 (cntE f n)) ∧ Below w.heap.size w w' := by
  go_enter Try.func10, Try.ntmps10
  go_wp2
  go_loopw [3, 4] (fun s i wr => ∃ k : Nat, i = .int .i64 k ∧ k ≤ n ∧ s = .int .i64 (cntE f k) ∧ Below w.heap.size w wr) (fun _ i _ => n - (intOf i).toNat)
  case atStart => exact ⟨0, rfl, Nat.zero_le _, rfl, Below.refl _ _⟩
  case round =>
    obtain ⟨k, rfl, hk, rfl, hb⟩ := hrel
    have hcl := cntE_le (f := f) k
    by_cases hlt : k < n
    · go_wp2
      go_loopw [5, 6] (fun s i wr => ∃ q : Nat, i = .int .i64 q ∧ q ≤ k ∧ s = .bool false ∧ Hid (∀ j, j < q → sameB (ed f j) (ed f k) = false) ∧ Below w.heap.size w wr) (fun _ i _ => k - (intOf i).toNat)
      case atStart => exact ⟨0, rfl, Nat.zero_le _, rfl, (fun j hj => absurd hj (by omega) : ∀ j, j < 0 → sameB (ed f j) (ed f k) = false), hb⟩
      case round =>
        clear hb
        obtain ⟨q, rfl, hq, rfl, hno, hb⟩ := hrel
        by_cases hlq : q < k
        · rcases r with r | ⟨b, o, rfl, hbl, hc⟩
          · omega
          have hk0 : ∀ i, wr.cell? ⟨b, i, none⟩ = w.cell? ⟨b, i, none⟩ := fun i => hb.cell (p := ⟨b, i, none⟩) hbl
          have q0 : wr.cell? ⟨b, o + q * 4, none⟩ = some (.int .i64 (f q 0)) := (hk0 _).trans (hc q 0 (by omega) (by omega))
          have q1 : wr.cell? ⟨b, o + q * 4 + 1, none⟩ = some (.int .i64 (f q 1)) := (hk0 _).trans (hc q 1 (by omega) (by omega))
          have q2 : wr.cell? ⟨b, o + q * 4 + 2, none⟩ = some (.int .i64 (f q 2)) := (hk0 _).trans (hc q 2 (by omega) (by omega))
          have q3 : wr.cell? ⟨b, o + q * 4 + 3, none⟩ = some (.int .i64 (f q 3)) := (hk0 _).trans (hc q 3 (by omega) (by omega))
          have q4 : wr.cell? ⟨b, o + k * 4, none⟩ = some (.int .i64 (f k 0)) := (hk0 _).trans (hc k 0 (by omega) (by omega))
          have q5 : wr.cell? ⟨b, o + k * 4 + 1, none⟩ = some (.int .i64 (f k 1)) := (hk0 _).trans (hc k 1 (by omega) (by omega))
          have q6 : wr.cell? ⟨b, o + k * 4 + 2, none⟩ = some (.int .i64 (f k 2)) := (hk0 _).trans (hc k 2 (by omega) (by omega))
          have q7 : wr.cell? ⟨b, o + k * 4 + 3, none⟩ = some (.int .i64 (f k 3)) := (hk0 _).trans (hc k 3 (by omega) (by omega))
          have hi1 : (0 : Int) ≤ (q : Int) := by omega
          have hi2 : (q : Int) < (n : Int) := by omega
          have hi3 : (0 : Int) ≤ (k : Int) := by omega
          have hi4 : (k : Int) < (n : Int) := by omega
          have hB : Below w.heap.size w wr.drew := hb.drew
          have hoq := hf q (by omega)
          have hok := hf k (by omega)
          clear hk0 hc
          cases hs : sameB (ed f q) (ed f k)
          · have hno' : Hid (∀ j, j < q + 1 → sameB (ed f j) (ed f k) = false) := (fun j hj => by
              by_cases e : j = q
              · rw [e]; exact hs
              · exact hno.out j (by omega) : ∀ j, j < q + 1 → sameB (ed f j) (ed f k) = false)
            have C27 := same_ed f q k hoq hok hs
            clear hs hno
            go_wp2
            go_region_held3 (fun w' => w'.cell? ⟨b, o + q * 4, none⟩ = some (.int .i64 (f q 0)) ∧ w'.cell? ⟨b, o + q * 4 + 1, none⟩ = some (.int .i64 (f q 1)) ∧ w'.cell? ⟨b, o + q * 4 + 2, none⟩ = some (.int .i64 (f q 2)) ∧ w'.cell? ⟨b, o + q * 4 + 3, none⟩ = some (.int .i64 (f q 3)) ∧ w'.cell? ⟨b, o + k * 4, none⟩ = some (.int .i64 (f k 0)) ∧ w'.cell? ⟨b, o + k * 4 + 1, none⟩ = some (.int .i64 (f k 1)) ∧ w'.cell? ⟨b, o + k * 4 + 2, none⟩ = some (.int .i64 (f k 2)) ∧ w'.cell? ⟨b, o + k * 4 + 3, none⟩ = some (.int .i64 (f k 3)))
              (simp [*])
              (first
                | (go_at_call 12; refine (edgeOf_any _ _ _ _ _).mono ?_; rintro e wX ⟨rfl, hbX⟩; have hB := hB.trans (hbX.mono hB.size); have SX := (And.intro (cell_kept hbX (b := b) (q := o + q * 4) (v := .int .i64 (f q 0)) (by simp [*])) (And.intro (cell_kept hbX (b := b) (q := o + q * 4 + 1) (v := .int .i64 (f q 1)) (by simp [*])) (And.intro (cell_kept hbX (b := b) (q := o + q * 4 + 2) (v := .int .i64 (f q 2)) (by simp [*])) (And.intro (cell_kept hbX (b := b) (q := o + q * 4 + 3) (v := .int .i64 (f q 3)) (by simp [*])) (And.intro (cell_kept hbX (b := b) (q := o + k * 4) (v := .int .i64 (f k 0)) (by simp [*])) (And.intro (cell_kept hbX (b := b) (q := o + k * 4 + 1) (v := .int .i64 (f k 1)) (by simp [*])) (And.intro (cell_kept hbX (b := b) (q := o + k * 4 + 2) (v := .int .i64 (f k 2)) (by simp [*])) (cell_kept hbX (b := b) (q := o + k * 4 + 3) (v := .int .i64 (f k 3)) (by simp [*]))))))))))
                | (go_at_call 27; refine (C27 _).mono ?_; rintro e wX ⟨rfl, hbX⟩; have hB := hB.trans (hbX.mono hB.size); have SX := (And.intro (cell_kept hbX (b := b) (q := o + q * 4) (v := .int .i64 (f q 0)) (by simp [*])) (And.intro (cell_kept hbX (b := b) (q := o + q * 4 + 1) (v := .int .i64 (f q 1)) (by simp [*])) (And.intro (cell_kept hbX (b := b) (q := o + q * 4 + 2) (v := .int .i64 (f q 2)) (by simp [*])) (And.intro (cell_kept hbX (b := b) (q := o + q * 4 + 3) (v := .int .i64 (f q 3)) (by simp [*])) (And.intro (cell_kept hbX (b := b) (q := o + k * 4) (v := .int .i64 (f k 0)) (by simp [*])) (And.intro (cell_kept hbX (b := b) (q := o + k * 4 + 1) (v := .int .i64 (f k 1)) (by simp [*])) (And.intro (cell_kept hbX (b := b) (q := o + k * 4 + 2) (v := .int .i64 (f k 2)) (by simp [*])) (cell_kept hbX (b := b) (q := o + k * 4 + 3) (v := .int .i64 (f k 3)) (by simp [*])))))))))))
            go_wp2
            go_roundw
            case rel => exact ⟨q + 1, by go_num, by omega, rfl, hno', hB⟩
            case measure => simp [intOf]; omega
          · have HS : Hid (cntE f (k + 1) = cntE f k) := cnt_seen (seen_of hlq hs)
            have C27 := same_ed f q k hoq hok hs
            clear hs hno
            go_wp2
            go_region_held3 (fun w' => w'.cell? ⟨b, o + q * 4, none⟩ = some (.int .i64 (f q 0)) ∧ w'.cell? ⟨b, o + q * 4 + 1, none⟩ = some (.int .i64 (f q 1)) ∧ w'.cell? ⟨b, o + q * 4 + 2, none⟩ = some (.int .i64 (f q 2)) ∧ w'.cell? ⟨b, o + q * 4 + 3, none⟩ = some (.int .i64 (f q 3)) ∧ w'.cell? ⟨b, o + k * 4, none⟩ = some (.int .i64 (f k 0)) ∧ w'.cell? ⟨b, o + k * 4 + 1, none⟩ = some (.int .i64 (f k 1)) ∧ w'.cell? ⟨b, o + k * 4 + 2, none⟩ = some (.int .i64 (f k 2)) ∧ w'.cell? ⟨b, o + k * 4 + 3, none⟩ = some (.int .i64 (f k 3)))
              (simp [*])
              (first
                | (go_at_call 12; refine (edgeOf_any _ _ _ _ _).mono ?_; rintro e wX ⟨rfl, hbX⟩; have hB := hB.trans (hbX.mono hB.size); have SX := (And.intro (cell_kept hbX (b := b) (q := o + q * 4) (v := .int .i64 (f q 0)) (by simp [*])) (And.intro (cell_kept hbX (b := b) (q := o + q * 4 + 1) (v := .int .i64 (f q 1)) (by simp [*])) (And.intro (cell_kept hbX (b := b) (q := o + q * 4 + 2) (v := .int .i64 (f q 2)) (by simp [*])) (And.intro (cell_kept hbX (b := b) (q := o + q * 4 + 3) (v := .int .i64 (f q 3)) (by simp [*])) (And.intro (cell_kept hbX (b := b) (q := o + k * 4) (v := .int .i64 (f k 0)) (by simp [*])) (And.intro (cell_kept hbX (b := b) (q := o + k * 4 + 1) (v := .int .i64 (f k 1)) (by simp [*])) (And.intro (cell_kept hbX (b := b) (q := o + k * 4 + 2) (v := .int .i64 (f k 2)) (by simp [*])) (cell_kept hbX (b := b) (q := o + k * 4 + 3) (v := .int .i64 (f k 3)) (by simp [*]))))))))))
                | (go_at_call 27; refine (C27 _).mono ?_; rintro e wX ⟨rfl, hbX⟩; have hB := hB.trans (hbX.mono hB.size); have SX := (And.intro (cell_kept hbX (b := b) (q := o + q * 4) (v := .int .i64 (f q 0)) (by simp [*])) (And.intro (cell_kept hbX (b := b) (q := o + q * 4 + 1) (v := .int .i64 (f q 1)) (by simp [*])) (And.intro (cell_kept hbX (b := b) (q := o + q * 4 + 2) (v := .int .i64 (f q 2)) (by simp [*])) (And.intro (cell_kept hbX (b := b) (q := o + q * 4 + 3) (v := .int .i64 (f q 3)) (by simp [*])) (And.intro (cell_kept hbX (b := b) (q := o + k * 4) (v := .int .i64 (f k 0)) (by simp [*])) (And.intro (cell_kept hbX (b := b) (q := o + k * 4 + 1) (v := .int .i64 (f k 1)) (by simp [*])) (And.intro (cell_kept hbX (b := b) (q := o + k * 4 + 2) (v := .int .i64 (f k 2)) (by simp [*])) (cell_kept hbX (b := b) (q := o + k * 4 + 3) (v := .int .i64 (f k 3)) (by simp [*])))))))))))
            go_wp2
            go_roundw
            case rel => exact ⟨k + 1, by go_num, by omega, by rw [HS.out], hB⟩
            case measure => simp [intOf]; omega
        · obtain rfl : q = k := by omega
          have HS : Hid (cntE f (q + 1) = cntE f q + 1) := cnt_new (unseen_of hno.out)
          go_wp2
          go_roundw
          case rel => exact ⟨q + 1, by go_num, by omega, by rw [HS.out]; go_num, hb⟩
          case measure => simp [intOf]; omega
    · go_wp2
      go_ret
      obtain rfl : k = n := by omega
      exact ⟨rfl, hb⟩

set_option maxRecDepth 100000 in
set_option maxHeartbeats 1000000 in
theorem distinctMud_any (a : Option Addr) (n c : Nat) (f : Nat → Nat → Int) (w : World) (r : RowF w a n 5 f) (hf : FitsE n f) (hn : n ≤ 4096) :
    Calls Try.prog 15 #[.slice a n c] w fun e w' => e = .returned (.int .i64 (cntE f n)) ∧ Below w.heap.size w w' := by
  go_enter Try.func15, Try.ntmps15
  go_wp2
  go_loopw [3, 4] (fun s i wr => ∃ k : Nat, i = .int .i64 k ∧ k ≤ n ∧ s = .int .i64 (cntE f k) ∧ Below w.heap.size w wr) (fun _ i _ => n - (intOf i).toNat)
  case atStart => exact ⟨0, rfl, Nat.zero_le _, rfl, Below.refl _ _⟩
  case round =>
    obtain ⟨k, rfl, hk, rfl, hb⟩ := hrel
    have hcl := cntE_le (f := f) k
    by_cases hlt : k < n
    · go_wp2
      go_loopw [5, 6] (fun s i wr => ∃ q : Nat, i = .int .i64 q ∧ q ≤ k ∧ s = .bool false ∧ Hid (∀ j, j < q → sameB (ed f j) (ed f k) = false) ∧ Below w.heap.size w wr) (fun _ i _ => k - (intOf i).toNat)
      case atStart => exact ⟨0, rfl, Nat.zero_le _, rfl, (fun j hj => absurd hj (by omega) : ∀ j, j < 0 → sameB (ed f j) (ed f k) = false), hb⟩
      case round =>
        clear hb
        obtain ⟨q, rfl, hq, rfl, hno, hb⟩ := hrel
        by_cases hlq : q < k
        · rcases r with r | ⟨b, o, rfl, hbl, hc⟩
          · omega
          have hk0 : ∀ i, wr.cell? ⟨b, i, none⟩ = w.cell? ⟨b, i, none⟩ := fun i => hb.cell (p := ⟨b, i, none⟩) hbl
          have q0 : wr.cell? ⟨b, o + q * 5, none⟩ = some (.int .i64 (f q 0)) := (hk0 _).trans (hc q 0 (by omega) (by omega))
          have q1 : wr.cell? ⟨b, o + q * 5 + 1, none⟩ = some (.int .i64 (f q 1)) := (hk0 _).trans (hc q 1 (by omega) (by omega))
          have q2 : wr.cell? ⟨b, o + q * 5 + 2, none⟩ = some (.int .i64 (f q 2)) := (hk0 _).trans (hc q 2 (by omega) (by omega))
          have q3 : wr.cell? ⟨b, o + q * 5 + 3, none⟩ = some (.int .i64 (f q 3)) := (hk0 _).trans (hc q 3 (by omega) (by omega))
          have q4 : wr.cell? ⟨b, o + q * 5 + 4, none⟩ = some (.int .i64 (f q 4)) := (hk0 _).trans (hc q 4 (by omega) (by omega))
          have q5 : wr.cell? ⟨b, o + k * 5, none⟩ = some (.int .i64 (f k 0)) := (hk0 _).trans (hc k 0 (by omega) (by omega))
          have q6 : wr.cell? ⟨b, o + k * 5 + 1, none⟩ = some (.int .i64 (f k 1)) := (hk0 _).trans (hc k 1 (by omega) (by omega))
          have q7 : wr.cell? ⟨b, o + k * 5 + 2, none⟩ = some (.int .i64 (f k 2)) := (hk0 _).trans (hc k 2 (by omega) (by omega))
          have q8 : wr.cell? ⟨b, o + k * 5 + 3, none⟩ = some (.int .i64 (f k 3)) := (hk0 _).trans (hc k 3 (by omega) (by omega))
          have q9 : wr.cell? ⟨b, o + k * 5 + 4, none⟩ = some (.int .i64 (f k 4)) := (hk0 _).trans (hc k 4 (by omega) (by omega))
          have hi1 : (0 : Int) ≤ (q : Int) := by omega
          have hi2 : (q : Int) < (n : Int) := by omega
          have hi3 : (0 : Int) ≤ (k : Int) := by omega
          have hi4 : (k : Int) < (n : Int) := by omega
          have hB : Below w.heap.size w wr.drew := hb.drew
          have hoq := hf q (by omega)
          have hok := hf k (by omega)
          clear hk0 hc
          cases hs : sameB (ed f q) (ed f k)
          · have hno' : Hid (∀ j, j < q + 1 → sameB (ed f j) (ed f k) = false) := (fun j hj => by
              by_cases e : j = q
              · rw [e]; exact hs
              · exact hno.out j (by omega) : ∀ j, j < q + 1 → sameB (ed f j) (ed f k) = false)
            have C27 := same_ed f q k hoq hok hs
            clear hs hno
            go_wp2
            go_region_held3 (fun w' => w'.cell? ⟨b, o + q * 5, none⟩ = some (.int .i64 (f q 0)) ∧ w'.cell? ⟨b, o + q * 5 + 1, none⟩ = some (.int .i64 (f q 1)) ∧ w'.cell? ⟨b, o + q * 5 + 2, none⟩ = some (.int .i64 (f q 2)) ∧ w'.cell? ⟨b, o + q * 5 + 3, none⟩ = some (.int .i64 (f q 3)) ∧ w'.cell? ⟨b, o + q * 5 + 4, none⟩ = some (.int .i64 (f q 4)) ∧ w'.cell? ⟨b, o + k * 5, none⟩ = some (.int .i64 (f k 0)) ∧ w'.cell? ⟨b, o + k * 5 + 1, none⟩ = some (.int .i64 (f k 1)) ∧ w'.cell? ⟨b, o + k * 5 + 2, none⟩ = some (.int .i64 (f k 2)) ∧ w'.cell? ⟨b, o + k * 5 + 3, none⟩ = some (.int .i64 (f k 3)) ∧ w'.cell? ⟨b, o + k * 5 + 4, none⟩ = some (.int .i64 (f k 4)))
              (simp [*])
              (first
                | (go_at_call 16; refine (mudEdgeOf_any _ _ _ _ _ _ ).mono ?_; rintro e wX ⟨rfl, hbX⟩; have hB := hB.trans (hbX.mono hB.size); have SX := (And.intro (cell_kept hbX (b := b) (q := o + q * 5) (v := .int .i64 (f q 0)) (by simp [*])) (And.intro (cell_kept hbX (b := b) (q := o + q * 5 + 1) (v := .int .i64 (f q 1)) (by simp [*])) (And.intro (cell_kept hbX (b := b) (q := o + q * 5 + 2) (v := .int .i64 (f q 2)) (by simp [*])) (And.intro (cell_kept hbX (b := b) (q := o + q * 5 + 3) (v := .int .i64 (f q 3)) (by simp [*])) (And.intro (cell_kept hbX (b := b) (q := o + q * 5 + 4) (v := .int .i64 (f q 4)) (by simp [*])) (And.intro (cell_kept hbX (b := b) (q := o + k * 5) (v := .int .i64 (f k 0)) (by simp [*])) (And.intro (cell_kept hbX (b := b) (q := o + k * 5 + 1) (v := .int .i64 (f k 1)) (by simp [*])) (And.intro (cell_kept hbX (b := b) (q := o + k * 5 + 2) (v := .int .i64 (f k 2)) (by simp [*])) (And.intro (cell_kept hbX (b := b) (q := o + k * 5 + 3) (v := .int .i64 (f k 3)) (by simp [*])) (cell_kept hbX (b := b) (q := o + k * 5 + 4) (v := .int .i64 (f k 4)) (by simp [*]))))))))))))
                | (go_at_call 27; refine (C27 _).mono ?_; rintro e wX ⟨rfl, hbX⟩; have hB := hB.trans (hbX.mono hB.size); have SX := (And.intro (cell_kept hbX (b := b) (q := o + q * 5) (v := .int .i64 (f q 0)) (by simp [*])) (And.intro (cell_kept hbX (b := b) (q := o + q * 5 + 1) (v := .int .i64 (f q 1)) (by simp [*])) (And.intro (cell_kept hbX (b := b) (q := o + q * 5 + 2) (v := .int .i64 (f q 2)) (by simp [*])) (And.intro (cell_kept hbX (b := b) (q := o + q * 5 + 3) (v := .int .i64 (f q 3)) (by simp [*])) (And.intro (cell_kept hbX (b := b) (q := o + q * 5 + 4) (v := .int .i64 (f q 4)) (by simp [*])) (And.intro (cell_kept hbX (b := b) (q := o + k * 5) (v := .int .i64 (f k 0)) (by simp [*])) (And.intro (cell_kept hbX (b := b) (q := o + k * 5 + 1) (v := .int .i64 (f k 1)) (by simp [*])) (And.intro (cell_kept hbX (b := b) (q := o + k * 5 + 2) (v := .int .i64 (f k 2)) (by simp [*])) (And.intro (cell_kept hbX (b := b) (q := o + k * 5 + 3) (v := .int .i64 (f k 3)) (by simp [*])) (cell_kept hbX (b := b) (q := o + k * 5 + 4) (v := .int .i64 (f k 4)) (by simp [*])))))))))))))
            go_wp2
            go_roundw
            case rel => exact ⟨q + 1, by go_num, by omega, rfl, hno', hB⟩
            case measure => simp [intOf]; omega
          · have HS : Hid (cntE f (k + 1) = cntE f k) := cnt_seen (seen_of hlq hs)
            have C27 := same_ed f q k hoq hok hs
            clear hs hno
            go_wp2
            go_region_held3 (fun w' => w'.cell? ⟨b, o + q * 5, none⟩ = some (.int .i64 (f q 0)) ∧ w'.cell? ⟨b, o + q * 5 + 1, none⟩ = some (.int .i64 (f q 1)) ∧ w'.cell? ⟨b, o + q * 5 + 2, none⟩ = some (.int .i64 (f q 2)) ∧ w'.cell? ⟨b, o + q * 5 + 3, none⟩ = some (.int .i64 (f q 3)) ∧ w'.cell? ⟨b, o + q * 5 + 4, none⟩ = some (.int .i64 (f q 4)) ∧ w'.cell? ⟨b, o + k * 5, none⟩ = some (.int .i64 (f k 0)) ∧ w'.cell? ⟨b, o + k * 5 + 1, none⟩ = some (.int .i64 (f k 1)) ∧ w'.cell? ⟨b, o + k * 5 + 2, none⟩ = some (.int .i64 (f k 2)) ∧ w'.cell? ⟨b, o + k * 5 + 3, none⟩ = some (.int .i64 (f k 3)) ∧ w'.cell? ⟨b, o + k * 5 + 4, none⟩ = some (.int .i64 (f k 4)))
              (simp [*])
              (first
                | (go_at_call 16; refine (mudEdgeOf_any _ _ _ _ _ _ ).mono ?_; rintro e wX ⟨rfl, hbX⟩; have hB := hB.trans (hbX.mono hB.size); have SX := (And.intro (cell_kept hbX (b := b) (q := o + q * 5) (v := .int .i64 (f q 0)) (by simp [*])) (And.intro (cell_kept hbX (b := b) (q := o + q * 5 + 1) (v := .int .i64 (f q 1)) (by simp [*])) (And.intro (cell_kept hbX (b := b) (q := o + q * 5 + 2) (v := .int .i64 (f q 2)) (by simp [*])) (And.intro (cell_kept hbX (b := b) (q := o + q * 5 + 3) (v := .int .i64 (f q 3)) (by simp [*])) (And.intro (cell_kept hbX (b := b) (q := o + q * 5 + 4) (v := .int .i64 (f q 4)) (by simp [*])) (And.intro (cell_kept hbX (b := b) (q := o + k * 5) (v := .int .i64 (f k 0)) (by simp [*])) (And.intro (cell_kept hbX (b := b) (q := o + k * 5 + 1) (v := .int .i64 (f k 1)) (by simp [*])) (And.intro (cell_kept hbX (b := b) (q := o + k * 5 + 2) (v := .int .i64 (f k 2)) (by simp [*])) (And.intro (cell_kept hbX (b := b) (q := o + k * 5 + 3) (v := .int .i64 (f k 3)) (by simp [*])) (cell_kept hbX (b := b) (q := o + k * 5 + 4) (v := .int .i64 (f k 4)) (by simp [*]))))))))))))
                | (go_at_call 27; refine (C27 _).mono ?_; rintro e wX ⟨rfl, hbX⟩; have hB := hB.trans (hbX.mono hB.size); have SX := (And.intro (cell_kept hbX (b := b) (q := o + q * 5) (v := .int .i64 (f q 0)) (by simp [*])) (And.intro (cell_kept hbX (b := b) (q := o + q * 5 + 1) (v := .int .i64 (f q 1)) (by simp [*])) (And.intro (cell_kept hbX (b := b) (q := o + q * 5 + 2) (v := .int .i64 (f q 2)) (by simp [*])) (And.intro (cell_kept hbX (b := b) (q := o + q * 5 + 3) (v := .int .i64 (f q 3)) (by simp [*])) (And.intro (cell_kept hbX (b := b) (q := o + q * 5 + 4) (v := .int .i64 (f q 4)) (by simp [*])) (And.intro (cell_kept hbX (b := b) (q := o + k * 5) (v := .int .i64 (f k 0)) (by simp [*])) (And.intro (cell_kept hbX (b := b) (q := o + k * 5 + 1) (v := .int .i64 (f k 1)) (by simp [*])) (And.intro (cell_kept hbX (b := b) (q := o + k * 5 + 2) (v := .int .i64 (f k 2)) (by simp [*])) (And.intro (cell_kept hbX (b := b) (q := o + k * 5 + 3) (v := .int .i64 (f k 3)) (by simp [*])) (cell_kept hbX (b := b) (q := o + k * 5 + 4) (v := .int .i64 (f k 4)) (by simp [*])))))))))))))
            go_wp2
            go_roundw
            case rel => exact ⟨k + 1, by go_num, by omega, by rw [HS.out], hB⟩
            case measure => simp [intOf]; omega
        · obtain rfl : q = k := by omega
          have HS : Hid (cntE f (q + 1) = cntE f q + 1) := cnt_new (unseen_of hno.out)
          go_wp2
          go_roundw
          case rel => exact ⟨q + 1, by go_num, by omega, by rw [HS.out]; go_num, hb⟩
          case measure => simp [intOf]; omega
    · go_wp2
      go_ret
      obtain rfl : k = n := by omega
      exact ⟨rfl, hb⟩
end Go.Proofs.Qxb6630866a
