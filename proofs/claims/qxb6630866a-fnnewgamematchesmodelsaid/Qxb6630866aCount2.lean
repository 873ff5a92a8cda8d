/-
  The walks of distinctCells (19), lastTurns (17). Seat b6630866a.
-/
import Derived.Test.Qxb6630866aCount
namespace Go.Proofs.Qxb6630866a
open Go.RowKit Go.Maps
set_option linter.unusedVariables false
attribute [local go_sem ↓] Go.wp_at_zero Go.wp_at_succ

theorem Try.wide54 : (match Try.prog.underlying 54 with | some (.array _ _) | some (.struct _) => true | _ => false) = true := by rw [Try.underlying54]
theorem Try.c54 : Try.prog.cellsOf 54 = 2 := by kernel_rfl
theorem Try.kt54 : Try.prog.keyType 54 = true := by kernel_rfl
theorem Try.ktd54 : Try.prog.keyTypeAt 2 54 = true := by kernel_rfl
theorem keyLits54 (d : Nat) (a b : Int) (ha : ok a) (hb : ok b) : Try.prog.keyLits (d + 2) 54 [.int .i64 a, .int .i64 b] = some [.int .i64 a, .int .i64 b] := by
  unfold ok at ha hb
  simp [Program.keyLits, Try.underlying54, Try.c54, Try.cells3, Try.underlying3, ha, hb]
theorem keyOf_cv54 (e : Ce) (h : Ce.ok e) : keyOf Try.prog 54 (cv e) = some (kc e) := by
  have h1 := keyLits54 (Try.prog.types.size - 1) e.1 e.2 h.1 h.2
  rw [← fuelIs2] at h1
  have hf : (cv e).formed Try.prog 54 = true := by simp [cv, Value.formed, Try.underlying54, Try.c54]
  simp only [keyOf, Try.underlying54, Try.kt54, hf, Bool.and_self, if_true]
  show Option.map _ (Try.prog.keyLits (Try.prog.types.size + 1) 54 [.int .i64 e.1, .int .i64 e.2]) = _
  rw [h1]
  rfl
theorem eql54 (a b : Ce) (ha : Ce.ok a) (hb : Ce.ok b) {x : Bool} (hx : decide (a = b) = x) (w : World) : (binOp .eql 54 (.agg #[.int .i64 a.1, .int .i64 a.2]) (.agg #[.int .i64 b.1, .int .i64 b.2])).run Try.prog w = .ok (.bool x) w := by
  obtain ⟨r, hr, hi⟩ := run_equal_deep (P := Try.prog) w (m := 2) (by omega) Try.ktd54 Try.wide54 (keyOf_cv54 a ha) (keyOf_cv54 b hb)
  have hrx : r = x := by
    rw [← hx, Bool.eq_iff_iff, hi, decide_eq_true_iff]
    exact ⟨kc_inj ha hb, fun e => by rw [e]⟩
  subst hrx
  unfold cv at hr
  simp only [binOp]
  simp [hr]

theorem cntC_seen {f : Nat → Nat → Int} {k : Nat} (h : seenC f k = true) : cntC f (k + 1) = cntC f k := by simp [cntC, h]
theorem cntC_new {f : Nat → Nat → Int} {k : Nat} (h : seenC f k = false) : cntC f (k + 1) = cntC f k + 1 := by simp [cntC, h]

set_option maxRecDepth 100000 in
set_option maxHeartbeats 1000000 in
theorem distinctCells_any (a : Option Addr) (n c : Nat) (f : Nat → Nat → Int) (w : World) (r : RowF w a n 2 f) (hf : FitsC n f) (hn : n ≤ 4096) :
    Calls Try.prog 19 #[.slice a n c] w fun e w' => e = .returned (.int .i64 (cntC f n)) ∧ Below w.heap.size w w' := by
  go_enter Try.func19, Try.ntmps19
  go_wp2
  go_loopw [3, 4] (fun s i wr => ∃ k nq : Nat, i = .int .i64 k ∧ k ≤ n ∧ s = .int .i64 (cntC f k) ∧ wr = w.drewN nq) (fun _ i _ => n - (intOf i).toNat)
  case atStart => exact ⟨0, 0, rfl, Nat.zero_le _, rfl, rfl⟩
  case round =>
    obtain ⟨k, nq, rfl, hk, rfl, rfl⟩ := hrel
    have hcl := cntC_le (f := f) k
    by_cases hlt : k < n
    · go_wp2
      go_loopw [5, 6] (fun s i wr => ∃ q nq : Nat, i = .int .i64 q ∧ q ≤ k ∧ s = .bool false ∧ Hid (∀ j, j < q → ce f j ≠ ce f k) ∧ wr = w.drewN nq) (fun _ i _ => k - (intOf i).toNat)
      case atStart => exact ⟨0, nq, rfl, Nat.zero_le _, rfl, (fun j hj => absurd hj (by omega) : ∀ j, j < 0 → ce f j ≠ ce f k), rfl⟩
      case round =>
        obtain ⟨q, nq', rfl, hq, rfl, hno, rfl⟩ := hrel
        by_cases hlq : q < k
        · rcases r with r | ⟨b, o, rfl, hbl, hc⟩
          · omega
          have q0 : w.cell? ⟨b, o + q * 2, none⟩ = some (.int .i64 (f q 0)) := hc q 0 (by omega) (by omega)
          have q1 : w.cell? ⟨b, o + q * 2 + 1, none⟩ = some (.int .i64 (f q 1)) := hc q 1 (by omega) (by omega)
          have p0 : w.cell? ⟨b, o + k * 2, none⟩ = some (.int .i64 (f k 0)) := hc k 0 (by omega) (by omega)
          have p1 : w.cell? ⟨b, o + k * 2 + 1, none⟩ = some (.int .i64 (f k 1)) := hc k 1 (by omega) (by omega)
          have hi1 : (0 : Int) ≤ (q : Int) := by omega
          have hi2 : (q : Int) < (n : Int) := by omega
          have hi3 : (0 : Int) ≤ (k : Int) := by omega
          have hi4 : (k : Int) < (n : Int) := by omega
          have hoq := hf q (by omega)
          have hok := hf k (by omega)
          clear hc
          by_cases hs : ce f q = ce f k
          · have HS : Hid (cntC f (k + 1) = cntC f k) := cntC_seen (seenC_of hlq hs)
            have E := eql54 (ce f q) (ce f k) hoq hok (decide_eq_true hs)
            simp only [ce] at E
            clear hs hno
            go_wp2
            go_quiet (fail)
            go_wp2
            go_roundw
            case rel => exact ⟨k + 1, _, by go_num, by omega, by rw [HS.out], rfl⟩
            case measure => simp [intOf]; omega
          · have hno' : Hid (∀ j, j < q + 1 → ce f j ≠ ce f k) := (fun j hj => by
              by_cases e : j = q
              · rw [e]; exact hs
              · exact hno.out j (by omega) : ∀ j, j < q + 1 → ce f j ≠ ce f k)
            have E := eql54 (ce f q) (ce f k) hoq hok (decide_eq_false hs)
            simp only [ce] at E
            clear hs hno
            go_wp2
            go_quiet (fail)
            go_wp2
            go_roundw
            case rel => exact ⟨q + 1, _, by go_num, by omega, rfl, hno', rfl⟩
            case measure => simp [intOf]; omega
        · obtain rfl : q = k := by omega
          have HS : Hid (cntC f (q + 1) = cntC f q + 1) := cntC_new (unseenC_of hno.out)
          go_wp2
          go_roundw
          case rel => exact ⟨q + 1, _, by go_num, by omega, by rw [HS.out]; go_num, rfl⟩
          case measure => simp [intOf]; omega
    · go_wp2
      go_ret
      obtain rfl : k = n := by omega
      exact ⟨rfl, below_drewN (Below.refl _ _) _⟩

set_option maxRecDepth 100000 in
set_option maxHeartbeats 1000000 in
theorem lastTurns_any (a : Option Addr) (n c i : Nat) (g : Nat → Nat → Int) (w : World) (r : RowF w a n 5 g) (hf : FitsE n g) (hn : n ≤ 4096) (hi : i < n) :
    Calls Try.prog 17 #[.slice a n c, .int .i64 i] w fun e w' => ∃ j, j < n ∧ sameB (ed g j) (ed g i) = true ∧ (∀ j', j < j' → j' < n → sameB (ed g j') (ed g i) = false) ∧ e = .returned (.int .i64 (g j 4)) ∧ Below w.heap.size w w' := by
  have hii : sameB (ed g i) (ed g i) = true := by simp [sameB]
  have Hii : Hid (sameB (ed g i) (ed g i) = true) := hii
  clear hii
  rcases r with r | ⟨b, o, rfl, hbl, hc⟩
  · omega
  go_enter Try.func17, Try.ntmps17
  go_wp2
  go_loopw [4, 5] (fun _ x wr => ∃ q : Nat, x = .int .i64 ((q : Int) - 1) ∧ q ≤ n ∧ Hid (∀ j', q ≤ j' → j' < n → sameB (ed g j') (ed g i) = false) ∧ Below w.heap.size w wr) (fun _ x _ => (intOf x + 1).toNat)
  case atStart => exact ⟨n, rfl, Nat.le_refl _, (fun j' h1 h2 => absurd h1 (by omega) : ∀ j', n ≤ j' → j' < n → sameB (ed g j') (ed g i) = false), Below.refl _ _⟩
  case round =>
    obtain ⟨q, rfl, hq, hno, hb⟩ := hrel
    by_cases h0 : q = 0
    · exfalso
      have h1 := hno.out i (by omega) hi
      have h2 := Hii.out
      rw [h1] at h2
      cases h2
    obtain ⟨t, rfl⟩ : ∃ t, q = t + 1 := ⟨q - 1, by omega⟩
    rw [show ((t + 1 : Nat) : Int) - 1 = (t : Int) from by omega]
    have hk0 : ∀ i, wr.cell? ⟨b, i, none⟩ = w.cell? ⟨b, i, none⟩ := fun i => hb.cell (p := ⟨b, i, none⟩) hbl
    have q0 : wr.cell? ⟨b, o + t * 5, none⟩ = some (.int .i64 (g t 0)) := (hk0 _).trans (hc t 0 (by omega) (by omega))
    have q1 : wr.cell? ⟨b, o + t * 5 + 1, none⟩ = some (.int .i64 (g t 1)) := (hk0 _).trans (hc t 1 (by omega) (by omega))
    have q2 : wr.cell? ⟨b, o + t * 5 + 2, none⟩ = some (.int .i64 (g t 2)) := (hk0 _).trans (hc t 2 (by omega) (by omega))
    have q3 : wr.cell? ⟨b, o + t * 5 + 3, none⟩ = some (.int .i64 (g t 3)) := (hk0 _).trans (hc t 3 (by omega) (by omega))
    have q4 : wr.cell? ⟨b, o + t * 5 + 4, none⟩ = some (.int .i64 (g t 4)) := (hk0 _).trans (hc t 4 (by omega) (by omega))
    have q5 : wr.cell? ⟨b, o + i * 5, none⟩ = some (.int .i64 (g i 0)) := (hk0 _).trans (hc i 0 (by omega) (by omega))
    have q6 : wr.cell? ⟨b, o + i * 5 + 1, none⟩ = some (.int .i64 (g i 1)) := (hk0 _).trans (hc i 1 (by omega) (by omega))
    have q7 : wr.cell? ⟨b, o + i * 5 + 2, none⟩ = some (.int .i64 (g i 2)) := (hk0 _).trans (hc i 2 (by omega) (by omega))
    have q8 : wr.cell? ⟨b, o + i * 5 + 3, none⟩ = some (.int .i64 (g i 3)) := (hk0 _).trans (hc i 3 (by omega) (by omega))
    have q9 : wr.cell? ⟨b, o + i * 5 + 4, none⟩ = some (.int .i64 (g i 4)) := (hk0 _).trans (hc i 4 (by omega) (by omega))
    have hi1 : (0 : Int) ≤ (t : Int) := by omega
    have hi2 : (t : Int) < (n : Int) := by omega
    have hi3 : (0 : Int) ≤ (i : Int) := by omega
    have hi4 : (i : Int) < (n : Int) := by omega
    have hB : Below w.heap.size w wr.drew := hb.drew
    have hot := hf t (by omega)
    have hoi := hf i (by omega)
    clear hk0 hc
    cases hs : sameB (ed g t) (ed g i)
    · have hno' : Hid (∀ j', t ≤ j' → j' < n → sameB (ed g j') (ed g i) = false) := (fun j' h1 h2 => by
        by_cases e : j' = t
        · rw [e]; exact hs
        · exact hno.out j' (by omega) h2 : ∀ j', t ≤ j' → j' < n → sameB (ed g j') (ed g i) = false)
      have C27 := same_ed g t i hot hoi hs
      clear hs hno
      go_wp2
      go_region_held3 (fun w' => w'.cell? ⟨b, o + t * 5, none⟩ = some (.int .i64 (g t 0)) ∧ w'.cell? ⟨b, o + t * 5 + 1, none⟩ = some (.int .i64 (g t 1)) ∧ w'.cell? ⟨b, o + t * 5 + 2, none⟩ = some (.int .i64 (g t 2)) ∧ w'.cell? ⟨b, o + t * 5 + 3, none⟩ = some (.int .i64 (g t 3)) ∧ w'.cell? ⟨b, o + t * 5 + 4, none⟩ = some (.int .i64 (g t 4)) ∧ w'.cell? ⟨b, o + i * 5, none⟩ = some (.int .i64 (g i 0)) ∧ w'.cell? ⟨b, o + i * 5 + 1, none⟩ = some (.int .i64 (g i 1)) ∧ w'.cell? ⟨b, o + i * 5 + 2, none⟩ = some (.int .i64 (g i 2)) ∧ w'.cell? ⟨b, o + i * 5 + 3, none⟩ = some (.int .i64 (g i 3)) ∧ w'.cell? ⟨b, o + i * 5 + 4, none⟩ = some (.int .i64 (g i 4)))
        (simp [*])
        (first
          | (go_at_call 16; refine (mudEdgeOf_any _ _ _ _ _ _).mono ?_; rintro e wX ⟨rfl, hbX⟩; have hB := hB.trans (hbX.mono hB.size); have SX := (And.intro (cell_kept hbX (b := b) (q := o + t * 5) (v := .int .i64 (g t 0)) (by simp [*])) (And.intro (cell_kept hbX (b := b) (q := o + t * 5 + 1) (v := .int .i64 (g t 1)) (by simp [*])) (And.intro (cell_kept hbX (b := b) (q := o + t * 5 + 2) (v := .int .i64 (g t 2)) (by simp [*])) (And.intro (cell_kept hbX (b := b) (q := o + t * 5 + 3) (v := .int .i64 (g t 3)) (by simp [*])) (And.intro (cell_kept hbX (b := b) (q := o + t * 5 + 4) (v := .int .i64 (g t 4)) (by simp [*])) (And.intro (cell_kept hbX (b := b) (q := o + i * 5) (v := .int .i64 (g i 0)) (by simp [*])) (And.intro (cell_kept hbX (b := b) (q := o + i * 5 + 1) (v := .int .i64 (g i 1)) (by simp [*])) (And.intro (cell_kept hbX (b := b) (q := o + i * 5 + 2) (v := .int .i64 (g i 2)) (by simp [*])) (And.intro (cell_kept hbX (b := b) (q := o + i * 5 + 3) (v := .int .i64 (g i 3)) (by simp [*])) (cell_kept hbX (b := b) (q := o + i * 5 + 4) (v := .int .i64 (g i 4)) (by simp [*]))))))))))))
          | (go_at_call 27; refine (C27 _).mono ?_; rintro e wX ⟨rfl, hbX⟩; have hB := hB.trans (hbX.mono hB.size); have SX := (And.intro (cell_kept hbX (b := b) (q := o + t * 5) (v := .int .i64 (g t 0)) (by simp [*])) (And.intro (cell_kept hbX (b := b) (q := o + t * 5 + 1) (v := .int .i64 (g t 1)) (by simp [*])) (And.intro (cell_kept hbX (b := b) (q := o + t * 5 + 2) (v := .int .i64 (g t 2)) (by simp [*])) (And.intro (cell_kept hbX (b := b) (q := o + t * 5 + 3) (v := .int .i64 (g t 3)) (by simp [*])) (And.intro (cell_kept hbX (b := b) (q := o + t * 5 + 4) (v := .int .i64 (g t 4)) (by simp [*])) (And.intro (cell_kept hbX (b := b) (q := o + i * 5) (v := .int .i64 (g i 0)) (by simp [*])) (And.intro (cell_kept hbX (b := b) (q := o + i * 5 + 1) (v := .int .i64 (g i 1)) (by simp [*])) (And.intro (cell_kept hbX (b := b) (q := o + i * 5 + 2) (v := .int .i64 (g i 2)) (by simp [*])) (And.intro (cell_kept hbX (b := b) (q := o + i * 5 + 3) (v := .int .i64 (g i 3)) (by simp [*])) (cell_kept hbX (b := b) (q := o + i * 5 + 4) (v := .int .i64 (g i 4)) (by simp [*])))))))))))))
      go_wp2
      go_roundw
      case rel => exact ⟨t, rfl, by omega, hno', hB⟩
      case measure => simp [intOf]
    · have Hs : Hid (sameB (ed g t) (ed g i) = true) := hs
      have C27 := same_ed g t i hot hoi hs
      clear hs
      go_wp2
      go_region_held3 (fun w' => w'.cell? ⟨b, o + t * 5, none⟩ = some (.int .i64 (g t 0)) ∧ w'.cell? ⟨b, o + t * 5 + 1, none⟩ = some (.int .i64 (g t 1)) ∧ w'.cell? ⟨b, o + t * 5 + 2, none⟩ = some (.int .i64 (g t 2)) ∧ w'.cell? ⟨b, o + t * 5 + 3, none⟩ = some (.int .i64 (g t 3)) ∧ w'.cell? ⟨b, o + t * 5 + 4, none⟩ = some (.int .i64 (g t 4)) ∧ w'.cell? ⟨b, o + i * 5, none⟩ = some (.int .i64 (g i 0)) ∧ w'.cell? ⟨b, o + i * 5 + 1, none⟩ = some (.int .i64 (g i 1)) ∧ w'.cell? ⟨b, o + i * 5 + 2, none⟩ = some (.int .i64 (g i 2)) ∧ w'.cell? ⟨b, o + i * 5 + 3, none⟩ = some (.int .i64 (g i 3)) ∧ w'.cell? ⟨b, o + i * 5 + 4, none⟩ = some (.int .i64 (g i 4)))
        (simp [*])
        (first
          | (go_at_call 16; refine (mudEdgeOf_any _ _ _ _ _ _).mono ?_; rintro e wX ⟨rfl, hbX⟩; have hB := hB.trans (hbX.mono hB.size); have SX := (And.intro (cell_kept hbX (b := b) (q := o + t * 5) (v := .int .i64 (g t 0)) (by simp [*])) (And.intro (cell_kept hbX (b := b) (q := o + t * 5 + 1) (v := .int .i64 (g t 1)) (by simp [*])) (And.intro (cell_kept hbX (b := b) (q := o + t * 5 + 2) (v := .int .i64 (g t 2)) (by simp [*])) (And.intro (cell_kept hbX (b := b) (q := o + t * 5 + 3) (v := .int .i64 (g t 3)) (by simp [*])) (And.intro (cell_kept hbX (b := b) (q := o + t * 5 + 4) (v := .int .i64 (g t 4)) (by simp [*])) (And.intro (cell_kept hbX (b := b) (q := o + i * 5) (v := .int .i64 (g i 0)) (by simp [*])) (And.intro (cell_kept hbX (b := b) (q := o + i * 5 + 1) (v := .int .i64 (g i 1)) (by simp [*])) (And.intro (cell_kept hbX (b := b) (q := o + i * 5 + 2) (v := .int .i64 (g i 2)) (by simp [*])) (And.intro (cell_kept hbX (b := b) (q := o + i * 5 + 3) (v := .int .i64 (g i 3)) (by simp [*])) (cell_kept hbX (b := b) (q := o + i * 5 + 4) (v := .int .i64 (g i 4)) (by simp [*]))))))))))))
          | (go_at_call 27; refine (C27 _).mono ?_; rintro e wX ⟨rfl, hbX⟩; have hB := hB.trans (hbX.mono hB.size); have SX := (And.intro (cell_kept hbX (b := b) (q := o + t * 5) (v := .int .i64 (g t 0)) (by simp [*])) (And.intro (cell_kept hbX (b := b) (q := o + t * 5 + 1) (v := .int .i64 (g t 1)) (by simp [*])) (And.intro (cell_kept hbX (b := b) (q := o + t * 5 + 2) (v := .int .i64 (g t 2)) (by simp [*])) (And.intro (cell_kept hbX (b := b) (q := o + t * 5 + 3) (v := .int .i64 (g t 3)) (by simp [*])) (And.intro (cell_kept hbX (b := b) (q := o + t * 5 + 4) (v := .int .i64 (g t 4)) (by simp [*])) (And.intro (cell_kept hbX (b := b) (q := o + i * 5) (v := .int .i64 (g i 0)) (by simp [*])) (And.intro (cell_kept hbX (b := b) (q := o + i * 5 + 1) (v := .int .i64 (g i 1)) (by simp [*])) (And.intro (cell_kept hbX (b := b) (q := o + i * 5 + 2) (v := .int .i64 (g i 2)) (by simp [*])) (And.intro (cell_kept hbX (b := b) (q := o + i * 5 + 3) (v := .int .i64 (g i 3)) (by simp [*])) (cell_kept hbX (b := b) (q := o + i * 5 + 4) (v := .int .i64 (g i 4)) (by simp [*])))))))))))))
      go_wp2
      go_ret
      exact ⟨t, by omega, Hs.out, fun j' h1 h2 => hno.out j' (by omega) h2, rfl, hB⟩
end Go.Proofs.Qxb6630866a
