/-
  The walk of FnNewGameMatchesModel (function 3). Seat b6630866a.
-/
import Derived.Test.Qxb6630866aCount2
import Derived.Test.Qxb6630866aMaze
import Derived.BigQuiet
import Derived.Deep.QuietTactic
import Derived.LaidEqlPtr
namespace Go.Proofs.Qxb6630866a
open Go.RowKit Go.Maps
set_option linter.unusedVariables false

/-- NewGame's contract, told of a maze's block. -/
theorem newGame_block (m : Nat) (x0 x1 s0x s0y s1x s1y : Int) (a2 a3 a4 : Option Addr) (n2 c2 n3 c3 n4 c4 : Nat) (f g h : Nat → Nat → Int) (w : World)
    (hm : w.heap[m]? = some (.cells (mazeCells x0 x1 (.slice a2 n2 c2) (.slice a3 n3 c3) (.slice a4 n4 c4) s0x s0y s1x s1y) 64 (0, 0)))
    (r2 : RowF w a2 n2 4 f) (r3 : RowF w a3 n3 5 g) (r4 : RowF w a4 n4 2 h) (f2 : Fits n2 4 f) (f3 : Fits n3 5 g) (f4 : Fits n4 2 h) (b2 : n2 ≤ 4096) (b3 : n3 ≤ 4096) (b4 : n4 ≤ 4096) :
    Calls Try.prog 7 #[.pointer (some ⟨m, 0, none⟩)] w fun e w' => ∃ gb bw bm bc, e = .returned (.pointer (some ⟨gb, 0, none⟩)) ∧
      Gm w' m gb bw bm bc s0x s0y s1x s1y n2 n3 n4 (wD f n2) (mD g n3) (cD h n4) ∧ Below w.heap.size w w' := by
  have hc : ∀ q, w.cell? ⟨m, q, none⟩ = (mazeCells x0 x1 (.slice a2 n2 c2) (.slice a3 n3 c3) (.slice a4 n4 c4) s0x s0y s1x s1y)[q]? := fun q => by simp [World.cell?, hm]
  refine (newGame_any m x0 x1 s0x s0y s1x s1y a2 a3 a4 n2 c2 n3 c3 n4 c4 f g h w (Array.getElem?_eq_some_iff.1 hm).1 (hc 2) (hc 3) (hc 4) (hc 5) (hc 6) (hc 7) (hc 8) r2 r3 r4 f2 f3 f4 b2 b3 b4).mono ?_
  rintro e w' ⟨bw, bm, bc, gb, rfl, h1, h2, h3, h4, h5⟩
  exact ⟨gb, bw, bm, bc, rfl, ⟨h1, h2, h3, h4⟩, h5⟩

/-- All that stands in memory while the law looks. -/
structure MInv (w wr : World) (a2 a3 a4 : Option Addr) (n2 n3 n4 : Nat) (f g h : Nat → Nat → Int) (s0x s0y s1x s1y : Int) (m1 g1 w1 u1 c1 : Nat) : Prop where
  one : Gm wr m1 g1 w1 u1 c1 s0x s0y s1x s1y n2 n3 n4 (wD f n2) (mD g n3) (cD h n4)
  r2 : RowF wr a2 n2 4 f
  r3 : RowF wr a3 n3 5 g
  r4 : RowF wr a4 n4 2 h
  below : Below w.heap.size w wr

theorem MInv.later {w wr wK : World} {a2 a3 a4 : Option Addr} {n2 n3 n4 : Nat} {f g h : Nat → Nat → Int} {s0x s0y s1x s1y : Int} {m1 g1 w1 u1 c1 : Nat}
    (H : MInv w wr a2 a3 a4 n2 n3 n4 f g h s0x s0y s1x s1y m1 g1 w1 u1 c1) (hb : Below wr.heap.size wr wK) : MInv w wK a2 a3 a4 n2 n3 n4 f g h s0x s0y s1x s1y m1 g1 w1 u1 c1 :=
  ⟨H.one.later hb, H.r2.later hb, H.r3.later hb, H.r4.later hb, H.below.trans (hb.mono H.below.size)⟩

theorem eqlPtr3 (a : Addr) (w : World) : (binOp .eql 28 (.pointer (some a)) (.pointer none)).run Try.prog w = .ok (.bool false) w := by kernel_rfl

theorem Try.info64 : (Try.prog.info? 64).isSome = true := by kernel_rfl
theorem neqPtr (a : Addr) (w : World) : (binOp .neq 26 (.pointer (some a)) (.pointer (some a))).run Try.prog w = .ok (.bool false) w := by
  obtain ⟨j, hj⟩ := Option.isSome_iff_exists.1 Try.info64
  have h : ∀ d : Nat, (Op.equalIn (d + 1) 26 (.pointer (some a)) (.pointer (some a))).run Try.prog w = .ok true w := fun d => by
    simp [Op.equalIn, run_underlying Try.underlying26, sizeOf, typeInfo, hj, run_sameAddr_same]
  simp only [binOp]
  simp [Op.equal, Op.maxDepth, h 9999]

set_option maxRecDepth 100000 in
set_option maxHeartbeats 1000000 in
theorem match_main (x0 x1 s0x s0y s1x s1y : Int) (a2 a3 a4 : Option Addr) (n2 k2 n3 k3 n4 k4 : Nat) (f g h : Nat → Nat → Int) (w : World)
    (r2 : RowF w a2 n2 4 f) (r3 : RowF w a3 n3 5 g) (r4 : RowF w a4 n4 2 h) (f2 : Fits n2 4 f) (f3 : Fits n3 5 g) (f4 : Fits n4 2 h) (b2 : n2 ≤ 4096) (b3 : n3 ≤ 4096) (b4 : n4 ≤ 4096)
    (bb : n2 * 32 + n3 * 40 + n4 * 16 ≤ 1048576) (v0 : ok s0x) (v1 : ok s0y) (v2 : ok s1x) (v3 : ok s1y) :
    Calls Try.prog 3 #[.int .i64 x0, .int .i64 x1, .slice a2 n2 k2, .slice a3 n3 k3, .slice a4 n4 k4, .int .i64 s0x, .int .i64 s0y, .int .i64 s1x, .int .i64 s1y] w fun e w' =>
      e = .returned (.bool true) ∧ Below w.heap.size w w' := by
  have hbb : decide (n2 + n3 + n4 ≤ 1048576) = true := by simp; omega
  have hpt := eqlPtr3
  have hnp := neqPtr
  go_enter Try.func3, Try.ntmps3
  go_wp2_with (go_at_call 5; refine (bytesB_any _ _ _ _ _ _ _ _ _ _ _ _ _ _ _ _ (by unfold maxLen; omega) (by unfold maxLen; omega) (by unfold maxLen; omega)).mono ?_; rintro e w' ⟨rfl, rfl⟩)
  refine (buildMaze_any x0 x1 s0x s0y s1x s1y a2 a3 a4 n2 k2 n3 k3 n4 k4 f g h _ r2 r3 r4 b2 b3 b4).mono ?_
  rintro e wA ⟨m1, p2, q2, p3, q3, p4, q4, rfl, hm1, hp2, hp3, hp4, hbA⟩
  go_wp2_with fail
  refine (newGame_block m1 x0 x1 s0x s0y s1x s1y p2 p3 p4 n2 q2 n3 q3 n4 q4 f g h _ hm1 hp2 hp3 hp4 f2 f3 f4 b2 b3 b4).mono ?_
  rintro e wC ⟨g1, w1, u1, c1, rfl, G1, hbC⟩
  have hAC : Below w.heap.size w wC := hbA.trans (hbC.mono hbA.size)
  have I : MInv w wC a2 a3 a4 n2 n3 n4 f g h s0x s0y s1x s1y m1 g1 w1 u1 c1 := ⟨G1, r2.later hAC, r3.later hAC, r4.later hAC, hAC⟩
  clear hm1 hp2 hp3 hp4 hbA hbC G1 hAC r2 r3 r4
  go_wp2_with fail
  refine (ZZMaze_any g1 undef (some ⟨m1, 0, none⟩) _ (I.one.cell 0)).mono ?_
  rintro e w' ⟨rfl, rfl⟩
  go_wp2_with fail
  refine (ZZWalls_any g1 (some w1) _ (I.one.cell 1)).mono ?_
  rintro e w' ⟨rfl, rfl⟩
  have hsw := size_wD n2 (fitsE_of (by omega) f2)
  go_wp2_with (first
    | (at_len; refine wpList_len_own _ rfl (.tmp 97) 31 rfl 37 4 Try.underlying31 _ w1 n2 (wD f n2) rfl I.one.walls ?_)
    | fail)
  refine (distinctWalls_any a2 n2 k2 f _ I.r2 (fitsE_of (by omega) f2) b2).mono ?_
  rintro e wC2 ⟨rfl, hbd⟩
  have I2 := I.later hbd
  clear hbd I
  clear hsw
  go_wp2_with fail
  go_loopw [22] (fun i wr => ∃ k : Nat, i = .int .i64 k ∧ k ≤ n2 ∧ MInv w wr a2 a3 a4 n2 n3 n4 f g h s0x s0y s1x s1y m1 g1 w1 u1 c1) (fun i _ => n2 - (intOf i).toNat)
  case atStart => exact ⟨0, rfl, Nat.zero_le _, I2⟩
  case round =>
    clear I2
    obtain ⟨k, rfl, hk, I⟩ := hrel
    by_cases hlt : k < n2
    · have he : Ed.ok (ed f k) := fitsE_of (by omega) f2 k hlt
      have hr2 := I.r2
      rcases hr2 with hr2 | ⟨b, o, rfl, hbl, hc⟩
      · omega
      have q0 : wr.cell? ⟨b, o + k * 4, none⟩ = some (.int .i64 (f k 0)) := hc k 0 hlt (by omega)
      have q1 : wr.cell? ⟨b, o + k * 4 + 1, none⟩ = some (.int .i64 (f k 1)) := hc k 1 hlt (by omega)
      have q2 : wr.cell? ⟨b, o + k * 4 + 2, none⟩ = some (.int .i64 (f k 2)) := hc k 2 hlt (by omega)
      have q3 : wr.cell? ⟨b, o + k * 4 + 3, none⟩ = some (.int .i64 (f k 3)) := hc k 3 hlt (by omega)
      clear hc
      go_wp2_with fail
      refine (edgeOf_any _ _ _ _ _).mono ?_
      rintro e wE0 ⟨rfl, hbE0⟩
      clear q0 q1 q2 q3
      go_wp2_with fail
      refine (canon_any _ _ _ _ _).mono ?_
      rintro e wE ⟨rfl, hbE⟩
      obtain ⟨c, hcd⟩ : ∃ c, c = keyE (f k 0, f k 1, f k 2, f k 3) := ⟨_, rfl⟩
      rw [← hcd]
      have Hc : Hid (c = keyE (ed f k)) := hcd
      have hoc : Ed.ok c := by rw [Hc.out]; exact okE_key he
      clear hcd
      go_wp2_with fail
      refine (flip_any _ _ _ _ _).mono ?_
      rintro e wF ⟨rfl, hbF⟩
      have hsz : wE.heap.size < wF.heap.size := by have := hbF.size; simp at this; omega
      have IF := ((I.later hbE0).later hbE).later (((Below.refl _ _).alloc (Nat.le_refl _) _).trans (hbF.mono (by simp)))
      have d0 : wF.cell? ⟨wE.heap.size, 0, none⟩ = some (.int .i64 c.1) := (hbF.cell (by simp)).trans (cell_new wE _ _ 0)
      have d1 : wF.cell? ⟨wE.heap.size, 1, none⟩ = some (.int .i64 c.2.1) := (hbF.cell (by simp)).trans (cell_new wE _ _ 1)
      have d2 : wF.cell? ⟨wE.heap.size, 2, none⟩ = some (.int .i64 c.2.2.1) := (hbF.cell (by simp)).trans (cell_new wE _ _ 2)
      have d3 : wF.cell? ⟨wE.heap.size, 3, none⟩ = some (.int .i64 c.2.2.2) := (hbF.cell (by simp)).trans (cell_new wE _ _ 3)
      have hbW : Below wF.heap.size wF (wF.alloc (.cells #[.int .i64 c.2.2.1, .int .i64 c.2.2.2, .int .i64 c.1, .int .i64 c.2.1] 37)) := (Below.refl _ _).alloc (Nat.le_refl _) _
      have IW := IF.later hbW
      have hx1 : Maps.has (wD f n2) (kl c) = true := (has_wD _ _).2 ⟨k, hlt, by rw [Hc.out]⟩
      have L1 := look31ok IW.one.walls (allTrue_wD f n2) c hoc hx1 0
      have NE := neqE (flipE c) c (ok_flip hoc) hoc
      simp only [World.drewN_zero] at L1
      by_cases hfc : flipE c = c
      · rw [decide_eq_true hfc] at NE
        simp only [flipE, Bool.not_true] at NE
        clear hbE hbE0 hbF I IF hbW hx1 he Hc hfc hoc
        go_wp2
        go_roundw
        case rel => exact ⟨k + 1, by go_num, by omega, IW⟩
        case measure => simp [intOf]; omega
      · rw [decide_eq_false hfc] at NE
        have hx2 : Maps.has (wD f n2) (kl (flipE c)) = false := by
          rw [Hc.out] at hfc ⊢
          exact rev_absent (fun q => has_wD q n2) (fitsE_of (by omega) f2) k hlt hfc
        have L2 := look31ok IW.one.walls (allTrue_wD f n2) (flipE c) (ok_flip hoc) hx2 0
        simp only [flipE, Bool.not_false, World.drewN_zero] at NE L2
        clear hbE hbE0 hbF I IF hbW hx1 hx2 he Hc hfc hoc
        go_wp2
        go_roundw
        case rel => exact ⟨k + 1, by go_num, by omega, IW⟩
        case measure => simp [intOf]; omega
    · go_wp2_with fail
      refine (ZZMud_any g1 (some u1) _ (I.one.cell 2)).mono ?_
      rintro e w' ⟨rfl, rfl⟩
      clear hlt
      have hsw := size_mD n3 (fitsE_of (by omega) f3)
      go_wp2_with (first
        | (at_len; refine wpList_len_own _ rfl (.tmp 140) 43 rfl 37 3 Try.underlying43 _ u1 n3 (mD g n3) rfl I.one.mud ?_)
        | fail)
      refine (distinctMud_any a3 n3 k3 g _ I.r3 (fitsE_of (by omega) f3) b3).mono ?_
      rintro e wC2 ⟨rfl, hbd⟩
      have I2 := I.later hbd
      clear hbd I hsw
      go_wp2_with fail
      go_loopw [30] (fun i wr => ∃ k : Nat, i = .int .i64 k ∧ k ≤ n3 ∧ MInv w wr a2 a3 a4 n2 n3 n4 f g h s0x s0y s1x s1y m1 g1 w1 u1 c1) (fun i _ => n3 - (intOf i).toNat)
      case atStart => exact ⟨0, rfl, Nat.zero_le _, I2⟩
      case round =>
        clear I2
        obtain ⟨k, rfl, hk, I⟩ := hrel
        by_cases hlt : k < n3
        · have he : Ed.ok (ed g k) := fitsE_of (by omega) f3 k hlt
          have hr3 := I.r3
          rcases hr3 with hr3 | ⟨b, o, rfl, hbl, hc⟩
          · omega
          have q0 : wr.cell? ⟨b, o + k * 5, none⟩ = some (.int .i64 (g k 0)) := hc k 0 hlt (by omega)
          have q1 : wr.cell? ⟨b, o + k * 5 + 1, none⟩ = some (.int .i64 (g k 1)) := hc k 1 hlt (by omega)
          have q2 : wr.cell? ⟨b, o + k * 5 + 2, none⟩ = some (.int .i64 (g k 2)) := hc k 2 hlt (by omega)
          have q3 : wr.cell? ⟨b, o + k * 5 + 3, none⟩ = some (.int .i64 (g k 3)) := hc k 3 hlt (by omega)
          have q4 : wr.cell? ⟨b, o + k * 5 + 4, none⟩ = some (.int .i64 (g k 4)) := hc k 4 hlt (by omega)
          clear hc
          go_wp2_with fail
          refine (mudEdgeOf_any _ _ _ _ _ _).mono ?_
          rintro e wE0 ⟨rfl, hbE0⟩
          clear q0 q1 q2 q3 q4
          go_wp2_with fail
          refine (canon_any _ _ _ _ _).mono ?_
          rintro e wE ⟨rfl, hbE⟩
          obtain ⟨c, hcd⟩ : ∃ c, c = keyE (g k 0, g k 1, g k 2, g k 3) := ⟨_, rfl⟩
          rw [← hcd]
          have Hc : Hid (c = keyE (ed g k)) := hcd
          have hoc : Ed.ok c := by rw [Hc.out]; exact okE_key he
          clear hcd
          go_wp2_with fail
          refine (flip_any _ _ _ _ _).mono ?_
          rintro e wF ⟨rfl, hbF⟩
          have hsz : wE.heap.size < wF.heap.size := by have := hbF.size; simp at this; omega
          have IF := ((I.later hbE0).later hbE).later (((Below.refl _ _).alloc (Nat.le_refl _) _).trans (hbF.mono (by simp)))
          have d0 : wF.cell? ⟨wE.heap.size, 0, none⟩ = some (.int .i64 c.1) := (hbF.cell (by simp)).trans (cell_new wE _ _ 0)
          have d1 : wF.cell? ⟨wE.heap.size, 1, none⟩ = some (.int .i64 c.2.1) := (hbF.cell (by simp)).trans (cell_new wE _ _ 1)
          have d2 : wF.cell? ⟨wE.heap.size, 2, none⟩ = some (.int .i64 c.2.2.1) := (hbF.cell (by simp)).trans (cell_new wE _ _ 2)
          have d3 : wF.cell? ⟨wE.heap.size, 3, none⟩ = some (.int .i64 c.2.2.2) := (hbF.cell (by simp)).trans (cell_new wE _ _ 3)
          have hbW : Below wF.heap.size wF (wF.alloc (.cells #[.int .i64 c.2.2.1, .int .i64 c.2.2.2, .int .i64 c.1, .int .i64 c.2.1] 37)) := (Below.refl _ _).alloc (Nat.le_refl _) _
          have IW := IF.later hbW
          have hx1 : Maps.has (mD g n3) (kl c) = true := (has_mD _ _).2 ⟨k, hlt, by rw [Hc.out]⟩
          obtain ⟨y1, hy1, L1⟩ := look43ok IW.one.mud c hoc hx1
          have L1 := L1 0
          simp only [World.drewN_zero] at L1
          have Hy : Hid ((mD g n3).atKey (kl c) (.lit (.int .i64 0)) = .lit (.int .i64 y1)) := hy1
          clear hbE hbE0 hbF I IF hbW hx1 he hy1
          go_wp2_with fail
          refine (lastTurns_any _ n3 k3 k g _ IW.r3 (fitsE_of (by omega) f3) b3 hlt).mono ?_
          rintro e wG ⟨j, hjn, hj1, hj2, rfl, hbG⟩
          have hyj : y1 = g j 4 := by
            have h1 := Hy.out
            have hcj : c = keyE (ed g j) := Hc.out.trans ((same_key _ _).1 hj1).symm
            rw [hcj, at_mD _ n3 (fitsE_of (by omega) f3) hjn (fun j' h3 h4 h5 => by
              have h6 := hj2 j' h3 h4
              rw [(same_key _ _).2 (h5.trans ((same_key _ _).1 hj1))] at h6
              cases h6)] at h1
            simp only [DataW.lit.injEq, Lit.int.injEq, true_and] at h1
            exact h1.symm
          subst hyj
          have IG := IW.later hbG
          have e0 : wG.cell? ⟨wE.heap.size, 0, none⟩ = some (.int .i64 c.1) := cell_kept hbG (by simp [go_sem, d0, hsz])
          have e1 : wG.cell? ⟨wE.heap.size, 1, none⟩ = some (.int .i64 c.2.1) := cell_kept hbG (by simp [go_sem, d1, hsz])
          have e2 : wG.cell? ⟨wE.heap.size, 2, none⟩ = some (.int .i64 c.2.2.1) := cell_kept hbG (by simp [go_sem, d2, hsz])
          have e3 : wG.cell? ⟨wE.heap.size, 3, none⟩ = some (.int .i64 c.2.2.2) := cell_kept hbG (by simp [go_sem, d3, hsz])
          have e4 : wG.cell? ⟨wF.heap.size, 0, none⟩ = some (.int .i64 c.2.2.1) := cell_kept hbG (cell_new wF _ _ 0)
          have e5 : wG.cell? ⟨wF.heap.size, 1, none⟩ = some (.int .i64 c.2.2.2) := cell_kept hbG (cell_new wF _ _ 1)
          have e6 : wG.cell? ⟨wF.heap.size, 2, none⟩ = some (.int .i64 c.1) := cell_kept hbG (cell_new wF _ _ 2)
          have e7 : wG.cell? ⟨wF.heap.size, 3, none⟩ = some (.int .i64 c.2.1) := cell_kept hbG (cell_new wF _ _ 3)
          have NE := neqE (flipE c) c (ok_flip hoc) hoc
          by_cases hfc : flipE c = c
          · rw [decide_eq_true hfc] at NE
            simp only [flipE, Bool.not_true] at NE
            clear hbG IW hfc hoc Hc Hy hj1 hj2 hjn L1 d0 d1 d2 d3
            go_wp2
            go_roundw
            case rel => exact ⟨k + 1, by go_num, by omega, IG⟩
            case measure => simp [intOf]; omega
          · rw [decide_eq_false hfc] at NE
            have hx2 : Maps.has (mD g n3) (kl (flipE c)) = false := by
              rw [Hc.out] at hfc ⊢
              exact rev_absent (fun q => has_mD q n3) (fitsE_of (by omega) f3) k hlt hfc
            obtain ⟨y2, hy2, L2⟩ := look43ok IG.one.mud (flipE c) (ok_flip hoc) hx2
            have L2 := L2 0
            simp only [flipE, Bool.not_false, World.drewN_zero] at NE L2
            clear hbG IW hfc hoc Hc Hy hj1 hj2 hjn L1 d0 d1 d2 d3 hx2 hy2
            go_wp2
            go_roundw
            case rel => exact ⟨k + 1, by go_num, by omega, IG⟩
            case measure => simp [intOf]; omega
        · go_wp2_with fail
          refine (ZZCheese_any g1 (some c1) _ (I.one.cell 3)).mono ?_
          rintro e w' ⟨rfl, rfl⟩
          clear hlt
          have hfc4 : FitsC n4 h := fun i hi => ⟨f4 i 0 hi (by omega), f4 i 1 hi (by omega)⟩
          have hsw := size_cD n4 hfc4
          go_wp2_with (first
            | (at_len; refine wpList_len_own _ rfl (.tmp 186) 51 rfl 35 4 Try.underlying51 _ c1 n4 (cD h n4) rfl I.one.cheese ?_)
            | fail)
          refine (distinctCells_any a4 n4 k4 h _ I.r4 hfc4 b4).mono ?_
          rintro e wC2 ⟨rfl, hbd⟩
          have I2 := I.later hbd
          clear hbd I hsw
          go_wp2_with fail
          go_loopw [38] (fun i wr => ∃ k : Nat, i = .int .i64 k ∧ k ≤ n4 ∧ MInv w wr a2 a3 a4 n2 n3 n4 f g h s0x s0y s1x s1y m1 g1 w1 u1 c1) (fun i _ => n4 - (intOf i).toNat)
          case atStart => exact ⟨0, rfl, Nat.zero_le _, I2⟩
          case round =>
            clear I2
            obtain ⟨k, rfl, hk, I⟩ := hrel
            by_cases hlt : k < n4
            · have he : Ce.ok (ce h k) := hfc4 k hlt
              have hr4 := I.r4
              rcases hr4 with hr4 | ⟨b, o, rfl, hbl, hc⟩
              · omega
              have q0 : wr.cell? ⟨b, o + k * 2, none⟩ = some (.int .i64 (h k 0)) := hc k 0 hlt (by omega)
              have q1 : wr.cell? ⟨b, o + k * 2 + 1, none⟩ = some (.int .i64 (h k 1)) := hc k 1 hlt (by omega)
              clear hc
              have hh : Maps.has (cD h n4) (kc (ce h k)) = true := (has_cD _ _).2 ⟨k, hlt, rfl⟩
              have L1 := look51ok I.one.cheese (allTrue_cD h n4) (ce h k) he hh
              simp only [ce] at L1
              have hi1 : (0 : Int) ≤ (k : Int) := by omega
              have hi2 : (k : Int) < (n4 : Int) := by omega
              clear he hh
              go_wp2_with fail
              go_quiet (fail)
              go_wp2
              go_roundw
              case rel => exact ⟨k + 1, by go_num, by omega, I.later (below_drewN (Below.refl _ _) _)⟩
              case measure => simp [intOf]; omega
            · have ok0 : ok 0 := by unfold ok; decide
              have N0 := neqC (s0x, s0y) (s0x, s0y) ⟨v0, v1⟩ ⟨v0, v1⟩
              have N1 := neqC (s1x, s1y) (s1x, s1y) ⟨v2, v3⟩ ⟨v2, v3⟩
              have NZ := neqC (0, 0) (0, 0) ⟨ok0, ok0⟩ ⟨ok0, ok0⟩
              simp only [decide_true, Bool.not_true] at N0 N1 NZ
              go_wp2_with fail
              refine (ZZPlayerAt_any g1 0 s0x s0y _ (by omega) (I.one.cell _) (I.one.cell _) I.one.lt).mono ?_
              rintro e wA ⟨rfl, hbA⟩
              have IA := I.later hbA
              clear hbA I
              go_wp2_with fail
              refine (ZZPlayerAt_any g1 1 s1x s1y _ (by omega) (IA.one.cell _) (IA.one.cell _) IA.one.lt).mono ?_
              rintro e wB ⟨rfl, hbB⟩
              have IB := IA.later hbB
              clear hbB IA
              go_wp2_with fail
              refine (ZZPlayerStuck_any g1 0 0 _ (by omega) (IB.one.cell _)).mono ?_
              rintro e w' ⟨rfl, rfl⟩
              go_wp2_with fail
              refine (ZZPlayerStuck_any g1 1 0 _ (by omega) (IB.one.cell _)).mono ?_
              rintro e w' ⟨rfl, rfl⟩
              go_wp2_with fail
              refine (ZZPlayerTo_any g1 0 0 0 _ (by omega) (IB.one.cell _) (IB.one.cell _) IB.one.lt).mono ?_
              rintro e wC ⟨rfl, hbC⟩
              have IC := IB.later hbC
              clear hbC IB
              go_wp2_with fail
              refine (ZZPlayerTo_any g1 1 0 0 _ (by omega) (IC.one.cell _) (IC.one.cell _) IC.one.lt).mono ?_
              rintro e wD2 ⟨rfl, hbD⟩
              have ID := IC.later hbD
              clear hbD IC
              go_wp2_with fail
              refine (ZZScore_any g1 0 0 _ (by omega) (ID.one.cell _)).mono ?_
              rintro e w' ⟨rfl, rfl⟩
              go_wp2_with fail
              refine (ZZScore_any g1 1 0 _ (by omega) (ID.one.cell _)).mono ?_
              rintro e w' ⟨rfl, rfl⟩
              go_wp2
              go_ret
              exact ⟨rfl, ID.below⟩
end Go.Proofs.Qxb6630866a
