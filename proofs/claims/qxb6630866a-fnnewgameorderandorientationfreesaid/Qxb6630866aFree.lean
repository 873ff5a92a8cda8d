/-
  The walk of FnNewGameOrderAndOrientationFree (function 4). Seat b6630866a.
-/
import Derived.Test.Qxb6630866aLook
import Derived.Test.Qxb6630866aMaze
import Derived.Test.Qxb6630866aShuf
import Derived.BigQuiet
import Derived.Deep.QuietTactic
namespace Go.Proofs.Qxb6630866a
open Go.RowKit Go.Maps
set_option linter.unusedVariables false

theorem fits_shuf {n : Nat} {f : Nat → Nat → Int} (h : Fits n 4 f) : Fits n 4 (flipF (revF n f)) := by
  intro i j hi hj
  match j, hj with
  | 0, _ => exact h _ 2 (by omega) (by omega)
  | 1, _ => exact h _ 3 (by omega) (by omega)
  | 2, _ => exact h _ 0 (by omega) (by omega)
  | 3, _ => exact h _ 1 (by omega) (by omega)
theorem fits_flip {n : Nat} {f : Nat → Nat → Int} (h : Fits n 5 f) : Fits n 5 (flipF f) := by
  intro i j hi hj
  match j, hj with
  | 0, _ => exact h _ 2 (by omega) (by omega)
  | 1, _ => exact h _ 3 (by omega) (by omega)
  | 2, _ => exact h _ 0 (by omega) (by omega)
  | 3, _ => exact h _ 1 (by omega) (by omega)
  | 4, _ => exact h _ 4 (by omega) (by omega)
theorem fits_rev {n : Nat} {f : Nat → Nat → Int} (h : Fits n 2 f) : Fits n 2 (revF n f) := fun i j hi hj => h _ j (by omega) hj

/-- NewGame's contract, told of a maze's block. -/
theorem newGame_maze (m : Nat) (x0 x1 s0x s0y s1x s1y : Int) (a2 a3 a4 : Option Addr) (n2 c2 n3 c3 n4 c4 : Nat) (f g h : Nat → Nat → Int) (w : World)
    (hm : w.heap[m]? = some (.cells (mazeCells x0 x1 (.slice a2 n2 c2) (.slice a3 n3 c3) (.slice a4 n4 c4) s0x s0y s1x s1y) 64 (0, 0)))
    (r2 : RowF w a2 n2 4 f) (r3 : RowF w a3 n3 5 g) (r4 : RowF w a4 n4 2 h) (f2 : Fits n2 4 f) (f3 : Fits n3 5 g) (f4 : Fits n4 2 h) (b2 : n2 ≤ 4096) (b3 : n3 ≤ 4096) (b4 : n4 ≤ 4096) :
    Calls Try.prog 7 #[.pointer (some ⟨m, 0, none⟩)] w fun e w' => ∃ gb bw bm bc, e = .returned (.pointer (some ⟨gb, 0, none⟩)) ∧
      Gm w' m gb bw bm bc s0x s0y s1x s1y n2 n3 n4 (wD f n2) (mD g n3) (cD h n4) ∧ Below w.heap.size w w' := by
  have hc : ∀ q, w.cell? ⟨m, q, none⟩ = (mazeCells x0 x1 (.slice a2 n2 c2) (.slice a3 n3 c3) (.slice a4 n4 c4) s0x s0y s1x s1y)[q]? := fun q => by simp [World.cell?, hm]
  refine (newGame_any m x0 x1 s0x s0y s1x s1y a2 a3 a4 n2 c2 n3 c3 n4 c4 f g h w (Array.getElem?_eq_some_iff.1 hm).1 (hc 2) (hc 3) (hc 4) (hc 5) (hc 6) (hc 7) (hc 8) r2 r3 r4 f2 f3 f4 b2 b3 b4).mono ?_
  rintro e w' ⟨bw, bm, bc, gb, rfl, h1, h2, h3, h4, h5⟩
  exact ⟨gb, bw, bm, bc, rfl, ⟨h1, h2, h3, h4⟩, h5⟩

/-- All that stands in memory while the law compares. -/
structure FInv (w wr : World) (a2 a3 a4 : Option Addr) (n2 n3 n4 : Nat) (f g h : Nat → Nat → Int) (s0x s0y s1x s1y : Int) (m1 g1 w1 u1 c1 m2 g2 w2 u2 c2 : Nat) : Prop where
  one : Gm wr m1 g1 w1 u1 c1 s0x s0y s1x s1y n2 n3 n4 (wD f n2) (mD g n3) (cD h n4)
  two : Gm wr m2 g2 w2 u2 c2 s0x s0y s1x s1y n2 n3 n4 (wD f n2) (mD g n3) (cD h n4)
  r2 : RowF wr a2 n2 4 f
  r3 : RowF wr a3 n3 5 g
  r4 : RowF wr a4 n4 2 h
  below : Below w.heap.size w wr

theorem FInv.later {w wr wK : World} {a2 a3 a4 : Option Addr} {n2 n3 n4 : Nat} {f g h : Nat → Nat → Int} {s0x s0y s1x s1y : Int} {m1 g1 w1 u1 c1 m2 g2 w2 u2 c2 : Nat}
    (H : FInv w wr a2 a3 a4 n2 n3 n4 f g h s0x s0y s1x s1y m1 g1 w1 u1 c1 m2 g2 w2 u2 c2) (hb : Below wr.heap.size wr wK) : FInv w wK a2 a3 a4 n2 n3 n4 f g h s0x s0y s1x s1y m1 g1 w1 u1 c1 m2 g2 w2 u2 c2 :=
  ⟨H.one.later hb, H.two.later hb, H.r2.later hb, H.r3.later hb, H.r4.later hb, H.below.trans (hb.mono H.below.size)⟩

theorem pair_bool {D : DataW Unit} {f : Nat → Nat → Int} {n : Nat} (hD : ∀ k, Maps.has D k = true ↔ ∃ i, i < n ∧ kl (keyE (ed f i)) = k) (hf : FitsE n f) (i : Nat) (hi : i < n) :
    ∃ b1 b2 bn : Bool, Maps.has D (kl (ed f i)) = b1 ∧ Maps.has D (kl (flipE (ed f i))) = b2 ∧ decide (ed f i = flipE (ed f i)) = bn ∧
      ((b1 = true ∧ b2 = false ∧ bn = false) ∨ (b1 = false ∧ b2 = true ∧ bn = false) ∨ (b1 = true ∧ b2 = true ∧ bn = true)) := by
  rcases pair_law hD hf i hi with ⟨h1, h2, h3⟩ | ⟨h1, h2, h3⟩ | ⟨h1, h2, h3⟩
  · exact ⟨true, false, false, h1, h2, by simp [h3], .inl ⟨rfl, rfl, rfl⟩⟩
  · exact ⟨false, true, false, h1, h2, by simp [h3], .inr (.inl ⟨rfl, rfl, rfl⟩)⟩
  · exact ⟨true, true, true, h1, h2, decide_eq_true h3, .inr (.inr ⟨rfl, rfl, rfl⟩)⟩

theorem eqlPtr (a : Addr) (w : World) : (binOp .eql 28 (.pointer (some a)) (.pointer none)).run Try.prog w = .ok (.bool false) w := by kernel_rfl

set_option maxRecDepth 100000 in
set_option maxHeartbeats 1000000 in
theorem free_main (x0 x1 s0x s0y s1x s1y : Int) (a2 a3 a4 : Option Addr) (n2 k2 n3 k3 n4 k4 : Nat) (f g h : Nat → Nat → Int) (w : World)
    (r2 : RowF w a2 n2 4 f) (r3 : RowF w a3 n3 5 g) (r4 : RowF w a4 n4 2 h) (f2 : Fits n2 4 f) (f3 : Fits n3 5 g) (f4 : Fits n4 2 h) (b2 : n2 ≤ 4096) (b3 : n3 ≤ 4096) (b4 : n4 ≤ 4096)
    (bb : n2 * 32 + n3 * 40 + n4 * 16 ≤ 1048576) (v0 : ok s0x) (v1 : ok s0y) (v2 : ok s1x) (v3 : ok s1y) :
    Calls Try.prog 4 #[.int .i64 x0, .int .i64 x1, .slice a2 n2 k2, .slice a3 n3 k3, .slice a4 n4 k4, .int .i64 s0x, .int .i64 s0y, .int .i64 s1x, .int .i64 s1y] w fun e w' =>
      e = .returned (.bool true) ∧ Below w.heap.size w w' := by
  have hbb : decide (n2 + n3 + n4 ≤ 1048576) = true := by simp; omega
  have hpt := eqlPtr
  go_enter Try.func4, Try.ntmps4
  go_wp2_with (go_at_call 24; refine (bytesA_any _ _ _ _ _ _ _ _ _ _ _ _ _ _ _ _ (by unfold maxLen; omega) (by unfold maxLen; omega) (by unfold maxLen; omega)).mono ?_; rintro e w' ⟨rfl, rfl⟩)
  refine (buildMaze_any x0 x1 s0x s0y s1x s1y a2 a3 a4 n2 k2 n3 k3 n4 k4 f g h _ r2 r3 r4 b2 b3 b4).mono ?_
  rintro e wA ⟨m1, p2, q2, p3, q3, p4, q4, rfl, hm1, hp2, hp3, hp4, hbA⟩
  have r2A := r2.later hbA
  have r3A := r3.later hbA
  have r4A := r4.later hbA
  go_wp2_with fail
  refine (buildShuffled_any x0 x1 s0x s0y s1x s1y a2 a3 a4 n2 k2 n3 k3 n4 k4 f g h _ r2A r3A r4A b2 b3 b4).mono ?_
  rintro e wB ⟨m2, p2', q2', p3', q3', p4', q4', rfl, hm2, hs2, hs3, hs4, hbB⟩
  have hm1B := (hbB.block m1 (Array.getElem?_eq_some_iff.1 hm1).1).trans hm1
  have hp2B := hp2.later hbB
  have hp3B := hp3.later hbB
  have hp4B := hp4.later hbB
  have hAB : Below w.heap.size w wB := hbA.trans (hbB.mono hbA.size)
  clear r2A r3A r4A hm1 hp2 hp3 hp4 hbA hbB
  go_wp2_with fail
  refine (newGame_maze m1 x0 x1 s0x s0y s1x s1y p2 p3 p4 n2 q2 n3 q3 n4 q4 f g h _ hm1B hp2B hp3B hp4B f2 f3 f4 b2 b3 b4).mono ?_
  rintro e wC ⟨g1, w1, u1, c1, rfl, G1, hbC⟩
  have hm2C := (hbC.block m2 (Array.getElem?_eq_some_iff.1 hm2).1).trans hm2
  have hs2C := hs2.later hbC
  have hs3C := hs3.later hbC
  have hs4C := hs4.later hbC
  have hAC : Below w.heap.size w wC := hAB.trans (hbC.mono hAB.size)
  clear hm1B hp2B hp3B hp4B hm2 hs2 hs3 hs4 hbC hAB
  go_wp2_with fail
  refine (newGame_maze m2 x0 x1 s0x s0y s1x s1y p2' p3' p4' n2 q2' n3 q3' n4 q4' _ _ _ _ hm2C hs2C hs3C hs4C (fits_shuf f2) (fits_flip f3) (fits_rev f4) b2 b3 b4).mono ?_
  rintro e wD' ⟨g2, w2, u2, c2, rfl, G2, hbD⟩
  rw [wD_shuf (G1.walls.canon law37) (G2.walls.canon law37), mD_flip, cD_shuf (G1.cheese.canon law35) (G2.cheese.canon law35)] at G2
  have hAD : Below w.heap.size w wD' := hAC.trans (hbD.mono hAC.size)
  have I : FInv w wD' a2 a3 a4 n2 n3 n4 f g h s0x s0y s1x s1y m1 g1 w1 u1 c1 m2 g2 w2 u2 c2 := ⟨G1.later hbD, G2, r2.later hAD, r3.later hAD, r4.later hAD, hAD⟩
  clear hm2C hs2C hs3C hs4C hbD hAC G1 G2 hAD r2 r3 r4
  go_wp2_with fail
  refine (ZZWalls_any g1 (some w1) _ (I.one.cell 1)).mono ?_
  rintro e w' ⟨rfl, rfl⟩
  go_wp2_with fail
  refine (ZZWalls_any g2 (some w2) _ (I.two.cell 1)).mono ?_
  rintro e w' ⟨rfl, rfl⟩
  go_wp2_with (first
    | (at_len; refine wpList_len_own _ rfl (.tmp 116) 31 rfl 37 4 Try.underlying31 _ w1 n2 (wD f n2) rfl I.one.walls ?_)
    | (at_len; refine wpList_len_own _ rfl (.tmp 118) 31 rfl 37 4 Try.underlying31 _ w2 n2 (wD f n2) rfl I.two.walls ?_))
  go_loopw [25] (fun i wr => ∃ k : Nat, i = .int .i64 k ∧ k ≤ n2 ∧ FInv w wr a2 a3 a4 n2 n3 n4 f g h s0x s0y s1x s1y m1 g1 w1 u1 c1 m2 g2 w2 u2 c2) (fun i _ => n2 - (intOf i).toNat)
  case atStart => exact ⟨0, rfl, Nat.zero_le _, I⟩
  case round =>
    clear I
    obtain ⟨k, rfl, hk, I⟩ := hrel
    by_cases hlt : k < n2
    · have he : Ed.ok (ed f k) := fitsE_of (by omega) f2 k hlt
      have hr2 := I.r2
      rcases hr2 with hr2 | ⟨b, o, rfl, hbl, hc⟩
      · omega
      have q0 : wr.cell? ⟨b, o + k * 4, none⟩ = some (.int .i64 (f k 0)) := hc k 0 hlt (by omega)
      have q1 : wr.cell? ⟨b, o + k * 4 + 1, none⟩ = some (.int .i64 (f k 1)) := hc k 1 hlt (by omega)
      have q2 : wr.cell? ⟨b, o + k * 4 + 2, none⟩ = some (.int .i64 (f k 2)) := hc k 2 hlt (by omega)
      have q3 : wr.cell? ⟨b, o + k * 4 + 3, none⟩ = some (.int .i64 (f k 3)) := hc k 3 hlt (by omega)
      clear hc
      go_wp2_with fail
      refine (edgeOf_any _ _ _ _ _).mono ?_
      rintro e wE ⟨rfl, hbE⟩
      clear q0 q1 q2 q3
      go_wp2_with fail
      refine (flip_any _ _ _ _ _).mono ?_
      rintro e wF ⟨rfl, hbF⟩
      have hsz : wE.heap.size < wF.heap.size := by have := hbF.size; simp at this; omega
      have IF := (I.later hbE).later (((Below.refl _ _).alloc (Nat.le_refl _) _).trans (hbF.mono (by simp)))
      have d0 : wF.cell? ⟨wE.heap.size, 0, none⟩ = some (.int .i64 (f k 0)) := (hbF.cell (by simp)).trans (cell_new wE _ _ 0)
      have d1 : wF.cell? ⟨wE.heap.size, 1, none⟩ = some (.int .i64 (f k 1)) := (hbF.cell (by simp)).trans (cell_new wE _ _ 1)
      have d2 : wF.cell? ⟨wE.heap.size, 2, none⟩ = some (.int .i64 (f k 2)) := (hbF.cell (by simp)).trans (cell_new wE _ _ 2)
      have d3 : wF.cell? ⟨wE.heap.size, 3, none⟩ = some (.int .i64 (f k 3)) := (hbF.cell (by simp)).trans (cell_new wE _ _ 3)
      have hbW : Below wF.heap.size wF (wF.alloc (.cells #[.int .i64 (f k 2), .int .i64 (f k 3), .int .i64 (f k 0), .int .i64 (f k 1)] 37)) := (Below.refl _ _).alloc (Nat.le_refl _) _
      have IW := IF.later hbW
      obtain ⟨x1, x2, xn, hx1, hx2, hxn, hxx⟩ := pair_bool (fun q => has_wD q n2) (fitsE_of (by omega) f2) k hlt
      have L1 := look31 IW.one.walls (allTrue_wD f n2) (ed f k) he hx1
      have L2 := look31 IW.two.walls (allTrue_wD f n2) (ed f k) he hx1
      have L3 := look31 IW.one.walls (allTrue_wD f n2) (flipE (ed f k)) (ok_flip he) hx2
      have L4 := look31 IW.two.walls (allTrue_wD f n2) (flipE (ed f k)) (ok_flip he) hx2
      have NE := neqE (ed f k) (flipE (ed f k)) he (ok_flip he)
      rw [hxn] at NE
      simp only [ed, flipE] at L1 L2 L3 L4 NE
      have Hb : Hid (Below wE.heap.size wE wF) := ((Below.refl _ _).alloc (Nat.le_refl _) _).trans (hbF.mono (by simp))
      clear hbE hbF I IF hbW hx1 hx2 hxn he
      go_wp2_with fail
      rcases hxx with ⟨rfl, rfl, rfl⟩ | ⟨rfl, rfl, rfl⟩ | ⟨rfl, rfl, rfl⟩
      all_goals
        go_quiet (fail)
        go_wp2
        go_roundw
        case rel => exact ⟨k + 1, by go_num, by omega, IW.later (below_drewN (Below.refl _ _) _)⟩
        case measure => simp [intOf]; omega
    · go_wp2_with fail
      refine (ZZMud_any g1 (some u1) _ (I.one.cell 2)).mono ?_
      rintro e w' ⟨rfl, rfl⟩
      go_wp2_with fail
      refine (ZZMud_any g2 (some u2) _ (I.two.cell 2)).mono ?_
      rintro e w' ⟨rfl, rfl⟩
      clear hlt
      go_wp2_with (first
        | (at_len; refine wpList_len_own _ rfl (.tmp 177) 43 rfl 37 3 Try.underlying43 _ u1 n3 (mD g n3) rfl I.one.mud ?_)
        | (at_len; refine wpList_len_own _ rfl (.tmp 179) 43 rfl 37 3 Try.underlying43 _ u2 n3 (mD g n3) rfl I.two.mud ?_))
      go_loopw [30] (fun i wr => ∃ k : Nat, i = .int .i64 k ∧ k ≤ n3 ∧ FInv w wr a2 a3 a4 n2 n3 n4 f g h s0x s0y s1x s1y m1 g1 w1 u1 c1 m2 g2 w2 u2 c2) (fun i _ => n3 - (intOf i).toNat)
      case atStart => exact ⟨0, rfl, Nat.zero_le _, I⟩
      case round =>
        clear I
        obtain ⟨k, rfl, hk, I⟩ := hrel
        by_cases hlt : k < n3
        · have he : Ed.ok (ed g k) := fitsE_of (by omega) f3 k hlt
          have hr3 := I.r3
          rcases hr3 with hr3 | ⟨b, o, rfl, hbl, hc⟩
          · omega
          have q0 : wr.cell? ⟨b, o + k * 5, none⟩ = some (.int .i64 (g k 0)) := hc k 0 hlt (by omega)
          have q1 : wr.cell? ⟨b, o + k * 5 + 1, none⟩ = some (.int .i64 (g k 1)) := hc k 1 hlt (by omega)
          have q2 : wr.cell? ⟨b, o + k * 5 + 2, none⟩ = some (.int .i64 (g k 2)) := hc k 2 hlt (by omega)
          have q3 : wr.cell? ⟨b, o + k * 5 + 3, none⟩ = some (.int .i64 (g k 3)) := hc k 3 hlt (by omega)
          have q4 : wr.cell? ⟨b, o + k * 5 + 4, none⟩ = some (.int .i64 (g k 4)) := hc k 4 hlt (by omega)
          clear hc
          go_wp2_with fail
          refine (mudEdgeOf_any _ _ _ _ _ _).mono ?_
          rintro e wE ⟨rfl, hbE⟩
          clear q0 q1 q2 q3 q4
          go_wp2_with fail
          refine (flip_any _ _ _ _ _).mono ?_
          rintro e wF ⟨rfl, hbF⟩
          have hsz : wE.heap.size < wF.heap.size := by have := hbF.size; simp at this; omega
          have IF := (I.later hbE).later (((Below.refl _ _).alloc (Nat.le_refl _) _).trans (hbF.mono (by simp)))
          have d0 : wF.cell? ⟨wE.heap.size, 0, none⟩ = some (.int .i64 (g k 0)) := (hbF.cell (by simp)).trans (cell_new wE _ _ 0)
          have d1 : wF.cell? ⟨wE.heap.size, 1, none⟩ = some (.int .i64 (g k 1)) := (hbF.cell (by simp)).trans (cell_new wE _ _ 1)
          have d2 : wF.cell? ⟨wE.heap.size, 2, none⟩ = some (.int .i64 (g k 2)) := (hbF.cell (by simp)).trans (cell_new wE _ _ 2)
          have d3 : wF.cell? ⟨wE.heap.size, 3, none⟩ = some (.int .i64 (g k 3)) := (hbF.cell (by simp)).trans (cell_new wE _ _ 3)
          have hbW : Below wF.heap.size wF (wF.alloc (.cells #[.int .i64 (g k 2), .int .i64 (g k 3), .int .i64 (g k 0), .int .i64 (g k 1)] 37)) := (Below.refl _ _).alloc (Nat.le_refl _) _
          have IW := IF.later hbW
          obtain ⟨x1, x2, xn, hx1, hx2, hxn, hxx⟩ := pair_bool (fun q => has_mD q n3) (fitsE_of (by omega) f3) k hlt
          obtain ⟨y1, hy1, L1⟩ := look43ok IW.one.mud (ed g k) he hx1
          obtain ⟨y2, hy2, L2⟩ := look43ok IW.two.mud (ed g k) he hx1
          obtain ⟨y3, hy3, L3⟩ := look43ok IW.one.mud (flipE (ed g k)) (ok_flip he) hx2
          obtain ⟨y4, hy4, L4⟩ := look43ok IW.two.mud (flipE (ed g k)) (ok_flip he) hx2
          obtain rfl : y1 = y2 := by rw [hy1] at hy2; simpa using hy2
          obtain rfl : y3 = y4 := by rw [hy3] at hy4; simpa using hy4
          have L1 := L1 0
          have L2 := L2 0
          have L3 := L3 0
          have L4 := L4 0
          simp only [ed, flipE, World.drewN_zero] at L1 L2 L3 L4
          clear hbE hbF I IF hbW hx1 hx2 hxn he hy1 hy2 hy3 hy4
          rcases hxx with ⟨rfl, rfl, rfl⟩ | ⟨rfl, rfl, rfl⟩ | ⟨rfl, rfl, rfl⟩
          all_goals
            go_wp2
            go_roundw
            case rel => exact ⟨k + 1, by go_num, by omega, IW⟩
            case measure => simp [intOf]; omega
        · go_wp2_with fail
          refine (ZZCheese_any g1 (some c1) _ (I.one.cell 3)).mono ?_
          rintro e w' ⟨rfl, rfl⟩
          go_wp2_with fail
          refine (ZZCheese_any g2 (some c2) _ (I.two.cell 3)).mono ?_
          rintro e w' ⟨rfl, rfl⟩
          clear hlt
          go_wp2_with (first
            | (at_len; refine wpList_len_own _ rfl (.tmp 247) 51 rfl 35 4 Try.underlying51 _ c1 n4 (cD h n4) rfl I.one.cheese ?_)
            | (at_len; refine wpList_len_own _ rfl (.tmp 249) 51 rfl 35 4 Try.underlying51 _ c2 n4 (cD h n4) rfl I.two.cheese ?_))
          go_loopw [43] (fun i wr => ∃ k : Nat, i = .int .i64 k ∧ k ≤ n4 ∧ FInv w wr a2 a3 a4 n2 n3 n4 f g h s0x s0y s1x s1y m1 g1 w1 u1 c1 m2 g2 w2 u2 c2) (fun i _ => n4 - (intOf i).toNat)
          case atStart => exact ⟨0, rfl, Nat.zero_le _, I⟩
          case round =>
            clear I
            obtain ⟨k, rfl, hk, I⟩ := hrel
            by_cases hlt : k < n4
            · have he : Ce.ok (ce h k) := ⟨f4 k 0 hlt (by omega), f4 k 1 hlt (by omega)⟩
              have hr4 := I.r4
              rcases hr4 with hr4 | ⟨b, o, rfl, hbl, hc⟩
              · omega
              have q0 : wr.cell? ⟨b, o + k * 2, none⟩ = some (.int .i64 (h k 0)) := hc k 0 hlt (by omega)
              have q1 : wr.cell? ⟨b, o + k * 2 + 1, none⟩ = some (.int .i64 (h k 1)) := hc k 1 hlt (by omega)
              clear hc
              have hbW : Below wr.heap.size wr (wr.alloc (.cells #[.int .i64 (h k 0), .int .i64 (h k 1)] 35)) := (Below.refl _ _).alloc (Nat.le_refl _) _
              have IW := I.later hbW
              have hh : Maps.has (cD h n4) (kc (ce h k)) = true := (has_cD _ _).2 ⟨k, hlt, rfl⟩
              have L1 := look51 IW.one.cheese (allTrue_cD h n4) (ce h k) he hh 1
              have L2 := look51 IW.two.cheese (allTrue_cD h n4) (ce h k) he hh 1
              simp only [ce, ← World.drew_is_drewN] at L1 L2
              have hbl' := hbl
              clear hbW I he hh
              go_wp2_with fail
              go_region
              go_wp2
              go_roundw
              case rel => exact ⟨k + 1, by go_num, by omega, IW.later ((Below.refl _ _).drew)⟩
              case measure => simp [intOf]; omega
            · go_wp2_with fail
              clear hlt
              go_loopw [45] (fun i wr => ∃ k : Nat, i = .int .i64 k ∧ k ≤ 2 ∧ FInv w wr a2 a3 a4 n2 n3 n4 f g h s0x s0y s1x s1y m1 g1 w1 u1 c1 m2 g2 w2 u2 c2) (fun i _ => 2 - (intOf i).toNat)
              case atStart => exact ⟨0, rfl, Nat.zero_le _, I⟩
              case round =>
                clear I
                obtain ⟨p, rfl, hp, I⟩ := hrel
                have ok0 : ok 0 := by unfold ok; decide
                match p, hp with
                | 0, _ =>
                  have NC := neqC (s0x, s0y) (s0x, s0y) ⟨v0, v1⟩ ⟨v0, v1⟩
                  have NZ := neqC (0, 0) (0, 0) ⟨ok0, ok0⟩ ⟨ok0, ok0⟩
                  simp only [decide_true, Bool.not_true] at NC NZ
                  go_wp2_with fail
                  refine (ZZPlayerAt_any g1 0 s0x s0y _ (by omega) (I.one.cell _) (I.one.cell _) I.one.lt).mono ?_
                  rintro e wA ⟨rfl, hbA⟩
                  have IA := I.later hbA
                  clear hbA I
                  go_wp2_with fail
                  refine (ZZPlayerAt_any g2 0 s0x s0y _ (by omega) (IA.two.cell _) (IA.two.cell _) IA.two.lt).mono ?_
                  rintro e wB ⟨rfl, hbB⟩
                  have IB := IA.later hbB
                  clear hbB IA
                  go_wp2_with fail
                  refine (ZZPlayerStuck_any g1 0 0 _ (by omega) (IB.one.cell _)).mono ?_
                  rintro e w' ⟨rfl, rfl⟩
                  go_wp2_with fail
                  refine (ZZPlayerStuck_any g2 0 0 _ (by omega) (IB.two.cell _)).mono ?_
                  rintro e w' ⟨rfl, rfl⟩
                  go_wp2_with fail
                  refine (ZZPlayerTo_any g1 0 0 0 _ (by omega) (IB.one.cell _) (IB.one.cell _) IB.one.lt).mono ?_
                  rintro e wC ⟨rfl, hbC⟩
                  have IC := IB.later hbC
                  clear hbC IB
                  go_wp2_with fail
                  refine (ZZPlayerTo_any g2 0 0 0 _ (by omega) (IC.two.cell _) (IC.two.cell _) IC.two.lt).mono ?_
                  rintro e wD2 ⟨rfl, hbD⟩
                  have ID := IC.later hbD
                  clear hbD IC
                  go_wp2_with fail
                  refine (ZZScore_any g1 0 0 _ (by omega) (ID.one.cell _)).mono ?_
                  rintro e w' ⟨rfl, rfl⟩
                  go_wp2_with fail
                  refine (ZZScore_any g2 0 0 _ (by omega) (ID.two.cell _)).mono ?_
                  rintro e w' ⟨rfl, rfl⟩
                  go_wp2
                  go_roundw
                  case rel => exact ⟨0 + 1, by go_num, by omega, ID⟩
                  case measure => simp [intOf]
                | 1, _ =>
                  have NC := neqC (s1x, s1y) (s1x, s1y) ⟨v2, v3⟩ ⟨v2, v3⟩
                  have NZ := neqC (0, 0) (0, 0) ⟨ok0, ok0⟩ ⟨ok0, ok0⟩
                  simp only [decide_true, Bool.not_true] at NC NZ
                  go_wp2_with fail
                  refine (ZZPlayerAt_any g1 1 s1x s1y _ (by omega) (I.one.cell _) (I.one.cell _) I.one.lt).mono ?_
                  rintro e wA ⟨rfl, hbA⟩
                  have IA := I.later hbA
                  clear hbA I
                  go_wp2_with fail
                  refine (ZZPlayerAt_any g2 1 s1x s1y _ (by omega) (IA.two.cell _) (IA.two.cell _) IA.two.lt).mono ?_
                  rintro e wB ⟨rfl, hbB⟩
                  have IB := IA.later hbB
                  clear hbB IA
                  go_wp2_with fail
                  refine (ZZPlayerStuck_any g1 1 0 _ (by omega) (IB.one.cell _)).mono ?_
                  rintro e w' ⟨rfl, rfl⟩
                  go_wp2_with fail
                  refine (ZZPlayerStuck_any g2 1 0 _ (by omega) (IB.two.cell _)).mono ?_
                  rintro e w' ⟨rfl, rfl⟩
                  go_wp2_with fail
                  refine (ZZPlayerTo_any g1 1 0 0 _ (by omega) (IB.one.cell _) (IB.one.cell _) IB.one.lt).mono ?_
                  rintro e wC ⟨rfl, hbC⟩
                  have IC := IB.later hbC
                  clear hbC IB
                  go_wp2_with fail
                  refine (ZZPlayerTo_any g2 1 0 0 _ (by omega) (IC.two.cell _) (IC.two.cell _) IC.two.lt).mono ?_
                  rintro e wD2 ⟨rfl, hbD⟩
                  have ID := IC.later hbD
                  clear hbD IC
                  go_wp2_with fail
                  refine (ZZScore_any g1 1 0 _ (by omega) (ID.one.cell _)).mono ?_
                  rintro e w' ⟨rfl, rfl⟩
                  go_wp2_with fail
                  refine (ZZScore_any g2 1 0 _ (by omega) (ID.two.cell _)).mono ?_
                  rintro e w' ⟨rfl, rfl⟩
                  go_wp2
                  go_roundw
                  case rel => exact ⟨1 + 1, by go_num, by omega, ID⟩
                  case measure => simp [intOf]
                | 2, _ =>
                  have EC := eqlC (s0x, s0y) (s0x, s0y) ⟨v0, v1⟩ ⟨v0, v1⟩
                  have ED := eqlC (s1x, s1y) (s1x, s1y) ⟨v2, v3⟩ ⟨v2, v3⟩
                  simp only [decide_true] at EC ED
                  go_wp2_with fail
                  refine (ZZPlayerAt_any g1 0 s0x s0y _ (by omega) (I.one.cell _) (I.one.cell _) I.one.lt).mono ?_
                  rintro e wA ⟨rfl, hbA⟩
                  have IA := I.later hbA
                  clear hbA I
                  go_wp2_with fail
                  refine (ZZPlayerAt_any g1 1 s1x s1y _ (by omega) (IA.one.cell _) (IA.one.cell _) IA.one.lt).mono ?_
                  rintro e wB ⟨rfl, hbB⟩
                  have IB := IA.later hbB
                  go_wp2
                  go_ret
                  exact ⟨rfl, IB.below⟩
end Go.Proofs.Qxb6630866a
