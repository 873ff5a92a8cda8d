/-
  The walk of buildMaze (function 6). Seat b6630866a.
-/
import Derived.Test.Qxb6630866aRowsN
namespace Go.Proofs.Qxb6630866a
open Go.RowKit Go.Maps
set_option linter.unusedVariables false
attribute [local go_sem ↓] Go.wp_at_zero Go.wp_at_succ sto66_eq sto37_eq sto35_eq
attribute [local go_sem] run_sto66 run_sto37 run_sto35

set_option maxRecDepth 100000 in
set_option maxHeartbeats 2000000 in
theorem buildMaze_any (x0 x1 s0x s0y s1x s1y : Int) (a2 a3 a4 : Option Addr) (n2 c2 n3 c3 n4 c4 : Nat) (f g h : Nat → Nat → Int) (w : World)
    (r2 : RowF w a2 n2 4 f) (r3 : RowF w a3 n3 5 g) (r4 : RowF w a4 n4 2 h) (b2 : n2 ≤ 4096) (b3 : n3 ≤ 4096) (b4 : n4 ≤ 4096) :
    Calls Try.prog 6 #[.int .i64 x0, .int .i64 x1, .slice a2 n2 c2, .slice a3 n3 c3, .slice a4 n4 c4, .int .i64 s0x, .int .i64 s0y, .int .i64 s1x, .int .i64 s1y] w fun e w' =>
      ∃ mb a2' c2' a3' c3' a4' c4', e = .returned (.pointer (some ⟨mb, 0, none⟩)) ∧ w'.heap[mb]? = some (.cells (mazeCells x0 x1 (.slice a2' n2 c2') (.slice a3' n3 c3') (.slice a4' n4 c4') s0x s0y s1x s1y) 64 (0, 0)) ∧
        RowF w' a2' n2 4 f ∧ RowF w' a3' n3 5 g ∧ RowF w' a4' n4 2 h ∧ Below w.heap.size w w' := by
  obtain ⟨i0, hi0, hi1, hi2, hi3⟩ := info_parts Try.info37
  obtain ⟨j0, hj0, hj1, hj2, hj3⟩ := info_parts Try.info66
  obtain ⟨l0, hl0, hl1, hl2, hl3⟩ := info_parts Try.info35
  have hne2 := fun (w : World) (a : Option Addr) (n c : Nat) => run_neq_slice_nil_any (P := Try.prog) w 22 41 a n c 0 0 Try.underlying22
  have hne3 := fun (w : World) (a : Option Addr) (n c : Nat) => run_neq_slice_nil_any (P := Try.prog) w 23 48 a n c 0 0 Try.underlying23
  have hne4 := fun (w : World) (a : Option Addr) (n c : Nat) => run_neq_slice_nil_any (P := Try.prog) w 24 54 a n c 0 0 Try.underlying24
  go_enter Try.func6, Try.ntmps6
  go_upto_region 1 with fail
  go_cut [19] from 23 (fun v wx => ∃ mb, v = .pointer (some ⟨mb, 0, none⟩) ∧ wx.heap[mb]? = some (.cells (mazeCells x0 x1 (.slice none 0 0) (.slice none 0 0) (.slice none 0 0) 0 0 0 0) 64 (0, 0)) ∧ w.heap.size ≤ mb ∧ Below w.heap.size w wx)
  case first =>
    go_wp2
    go_meet
    case rel => exact ⟨w.heap.size, rfl, by simpa [mazeCells] using heap_alloc_new w _, Nat.le_refl _, (Below.refl _ _).alloc (Nat.le_refl _) _⟩
  case rest =>
    obtain ⟨mb, rfl, hblk, hmb, hbel⟩ := hcut
    go_upto_if 28 with fail
    go_cut [20] from 23 (fun _ wx => ∃ a c, wx.heap[mb]? = some (.cells (mazeCells x0 x1 (.slice a n2 c) (.slice none 0 0) (.slice none 0 0) 0 0 0 0) 64 (0, 0)) ∧ RowN mb wx a n2 4 f ∧ Below w.heap.size w wx)
    case first =>
      have r2' := (r2.old hmb).kept (grown_of_below hbel _)
      cases a2 with
      | none =>
        rcases r2 with r2 | ⟨b, o, e, _⟩
        · subst r2
          go_wp2
          go_meet
          case rel => exact ⟨none, 0, hblk, .inl rfl, hbel⟩
        · cases e
      | some ad =>
        have m0 : wc.cell? ⟨mb, 2, none⟩ = some (.slice none 0 0) := by simp [World.cell?, hblk, mazeCells]
        have m1 : wc.frozen? ⟨mb, 2, none⟩ = false := by simp [World.frozen?, hblk]
        have hml : mb < wc.heap.size := (Array.getElem?_eq_some_iff.1 hblk).1
        go_wp2_with (at_make; refine wpList_make_full _ rfl _ _ 59 rfl wc.heap.size 37 i0 _ 4 Try.underlying59 hi0 hi1 hi2 _ _ _ _ n2 rfl rfl rfl rfl ?c1 ?c2 ?c3 ?_)
        case c1 => rw [hi3]; omega
        case c2 => unfold maxLen; omega
        case c3 => exact Nat.le_refl _
        intro w1 hown hgrow
        have m2 : w1.cell? ⟨mb, 2, none⟩ = some (.slice none 0 0) := hgrow.cell m0 (by simp)
        have m3 : w1.frozen? ⟨mb, 2, none⟩ = false := (World.frozen?_of_block (a := ⟨mb, 2, none⟩) (hgrow.block mb hml (by simp))).trans m1
        have HL := linv_start (F := f) hown hgrow hblk 2
        clear hown hgrow m0 m1
        go_wp2
        go_loopw [20] (fun i wr => ∃ k : Nat, i = .int .i64 k ∧ k ≤ n2 ∧ LInv wc wr mb (mazeCells x0 x1 (.slice (some ⟨wc.heap.size, 0, none⟩) n2 n2) (.slice none 0 0) (.slice none 0 0) 0 0 0 0) wc.heap.size 37 n2 4 f k) (fun i _ => n2 - (intOf i).toNat)
        case atStart => exact ⟨0, rfl, Nat.zero_le _, HL⟩
        case round =>
          clear HL m2 m3
          obtain ⟨k, rfl, hk, HL⟩ := hrel
          by_cases hlt : k < n2
          · rcases r2' with r2' | ⟨b, o, e, hbm, hbl, hc⟩
            · omega
            cases e
            have hcx : ∀ q, wr.cell? ⟨b, q, none⟩ = wc.cell? ⟨b, q, none⟩ := fun q => World.cell?_of_block (a := ⟨b, q, none⟩) (HL.gr.block b hbl (by simpa using hbm))
            have q0 : wr.cell? ⟨b, o + k * 4, none⟩ = some (.int .i64 (f k 0)) := (hcx _).trans (hc k 0 hlt (by omega))
            have q1 : wr.cell? ⟨b, o + k * 4 + 1, none⟩ = some (.int .i64 (f k 1)) := (hcx _).trans (hc k 1 hlt (by omega))
            have q2 : wr.cell? ⟨b, o + k * 4 + 2, none⟩ = some (.int .i64 (f k 2)) := (hcx _).trans (hc k 2 hlt (by omega))
            have q3 : wr.cell? ⟨b, o + k * 4 + 3, none⟩ = some (.int .i64 (f k 3)) := (hcx _).trans (hc k 3 hlt (by omega))
            have q4 : wr.cell? ⟨mb, 2, none⟩ = some (.slice (some ⟨wc.heap.size, 0, none⟩) n2 n2) := HL.cell 2
            have hlm := HL.lt
            have hbr : b < wr.heap.size := Nat.lt_of_lt_of_le hbl HL.gr.size
            have hi1' : (0 : Int) ≤ (k : Int) := by omega
            have hi2' : (k : Int) < (n2 : Int) := by omega
            have ne1 : wc.heap.size ≠ mb := by omega
            have ne2 : wc.heap.size ≠ b := by omega
            clear hcx hc
            go_wp2
            go_region_held3 (fun w' => w'.cell? ⟨mb, 2, none⟩ = some (.slice (some ⟨wc.heap.size, 0, none⟩) n2 n2) ∧ w'.cell? ⟨b, o + k * 4, none⟩ = some (.int .i64 (f k 0)) ∧ w'.cell? ⟨b, o + k * 4 + 1, none⟩ = some (.int .i64 (f k 1)) ∧ w'.cell? ⟨b, o + k * 4 + 2, none⟩ = some (.int .i64 (f k 2)) ∧ w'.cell? ⟨b, o + k * 4 + 3, none⟩ = some (.int .i64 (f k 3)))
              (simp [*, cell_setCells_far])
              (first | (go_at_call 12; refine (edgeOf_any _ _ _ _ _).mono ?_; rintro e wK ⟨rfl, hbK⟩; have HK := HL.later (below_of_drew hbK); have TK := HK.there' hlt; have S1 := And.intro ((hbK.cell (p := ⟨mb, 2, none⟩) hlm.1).trans q4) (And.intro ((hbK.cell (p := ⟨b, o + k * 4, none⟩) hbr).trans q0) (And.intro ((hbK.cell (p := ⟨b, o + k * 4 + 1, none⟩) hbr).trans q1) (And.intro ((hbK.cell (p := ⟨b, o + k * 4 + 2, none⟩) hbr).trans q2) ((hbK.cell (p := ⟨b, o + k * 4 + 3, none⟩) hbr).trans q3))))))
            go_wp2
            go_roundw
            case rel => exact ⟨k + 1, by go_num, by omega, HK.put4 hlt⟩
            case measure => simp [intOf]; omega
          · obtain rfl : k = n2 := by omega
            go_wp2
            go_meet
            case rel => exact ⟨_, _, HL.blk, HL.rowN, hbel.grown HL.gr hbel.size (fun q hq => by cases hq; exact hmb)⟩
    case rest =>
      clear hblk hbel
      obtain ⟨a2', c2', hblk, hr2, hbel⟩ := hcut
      have r3' := (r3.old hmb).kept (grown_of_below hbel _)
      go_upto_if 53 with fail
      go_cut [21] from 23 (fun _ wx => ∃ a c, wx.heap[mb]? = some (.cells (mazeCells x0 x1 (.slice a2' n2 c2') (.slice a n3 c) (.slice none 0 0) 0 0 0 0) 64 (0, 0)) ∧ RowN mb wx a2' n2 4 f ∧ RowN mb wx a n3 5 g ∧ Below w.heap.size w wx)
      case first =>
        cases a3 with
        | none =>
          rcases r3 with r3 | ⟨b, o, e, _⟩
          · subst r3
            go_wp2
            go_meet
            case rel => exact ⟨none, 0, hblk, hr2, .inl rfl, hbel⟩
          · cases e
        | some ad =>
          have m0 : wc.cell? ⟨mb, 3, none⟩ = some (.slice none 0 0) := by simp [World.cell?, hblk, mazeCells]
          have m1 : wc.frozen? ⟨mb, 3, none⟩ = false := by simp [World.frozen?, hblk]
          have hml : mb < wc.heap.size := (Array.getElem?_eq_some_iff.1 hblk).1
          go_wp2_with (at_make; refine wpList_make_full _ rfl _ _ 60 rfl wc.heap.size 66 j0 _ 5 Try.underlying60 hj0 hj1 hj2 _ _ _ _ n3 rfl rfl rfl rfl ?c1 ?c2 ?c3 ?_)
          case c1 => rw [hj3]; omega
          case c2 => unfold maxLen; omega
          case c3 => exact Nat.le_refl _
          intro w1 hown hgrow
          have m2 : w1.cell? ⟨mb, 3, none⟩ = some (.slice none 0 0) := hgrow.cell m0 (by simp)
          have m3 : w1.frozen? ⟨mb, 3, none⟩ = false := (World.frozen?_of_block (a := ⟨mb, 3, none⟩) (hgrow.block mb hml (by simp))).trans m1
          have HL := linv_start (F := g) hown hgrow hblk 3
          clear hown hgrow m0 m1
          go_wp2
          go_loopw [21] (fun i wr => ∃ k : Nat, i = .int .i64 k ∧ k ≤ n3 ∧ LInv wc wr mb (mazeCells x0 x1 (.slice a2' n2 c2') (.slice (some ⟨wc.heap.size, 0, none⟩) n3 n3) (.slice none 0 0) 0 0 0 0) wc.heap.size 66 n3 5 g k) (fun i _ => n3 - (intOf i).toNat)
          case atStart => exact ⟨0, rfl, Nat.zero_le _, HL⟩
          case round =>
            clear HL m2 m3
            obtain ⟨k, rfl, hk, HL⟩ := hrel
            by_cases hlt : k < n3
            · rcases r3' with r3' | ⟨b, o, e, hbm, hbl, hc⟩
              · omega
              cases e
              have hcx : ∀ q, wr.cell? ⟨b, q, none⟩ = wc.cell? ⟨b, q, none⟩ := fun q => World.cell?_of_block (a := ⟨b, q, none⟩) (HL.gr.block b hbl (by simpa using hbm))
              have q0 : wr.cell? ⟨b, o + k * 5, none⟩ = some (.int .i64 (g k 0)) := (hcx _).trans (hc k 0 hlt (by omega))
              have q1 : wr.cell? ⟨b, o + k * 5 + 1, none⟩ = some (.int .i64 (g k 1)) := (hcx _).trans (hc k 1 hlt (by omega))
              have q2 : wr.cell? ⟨b, o + k * 5 + 2, none⟩ = some (.int .i64 (g k 2)) := (hcx _).trans (hc k 2 hlt (by omega))
              have q3 : wr.cell? ⟨b, o + k * 5 + 3, none⟩ = some (.int .i64 (g k 3)) := (hcx _).trans (hc k 3 hlt (by omega))
              have q4 : wr.cell? ⟨b, o + k * 5 + 4, none⟩ = some (.int .i64 (g k 4)) := (hcx _).trans (hc k 4 hlt (by omega))
              have q5 : wr.cell? ⟨mb, 3, none⟩ = some (.slice (some ⟨wc.heap.size, 0, none⟩) n3 n3) := HL.cell 3
              have hlm := HL.lt
              have hbr : b < wr.heap.size := Nat.lt_of_lt_of_le hbl HL.gr.size
              have hi1' : (0 : Int) ≤ (k : Int) := by omega
              have hi2' : (k : Int) < (n3 : Int) := by omega
              have ne1 : wc.heap.size ≠ mb := by omega
              have ne2 : wc.heap.size ≠ b := by omega
              clear hcx hc
              go_wp2
              go_region_held3 (fun w' => w'.cell? ⟨mb, 3, none⟩ = some (.slice (some ⟨wc.heap.size, 0, none⟩) n3 n3) ∧ w'.cell? ⟨b, o + k * 5, none⟩ = some (.int .i64 (g k 0)) ∧ w'.cell? ⟨b, o + k * 5 + 1, none⟩ = some (.int .i64 (g k 1)) ∧ w'.cell? ⟨b, o + k * 5 + 2, none⟩ = some (.int .i64 (g k 2)) ∧ w'.cell? ⟨b, o + k * 5 + 3, none⟩ = some (.int .i64 (g k 3)) ∧ w'.cell? ⟨b, o + k * 5 + 4, none⟩ = some (.int .i64 (g k 4)))
                (simp [*, cell_setCells_far])
                (first | (go_at_call 16; refine (mudEdgeOf_any _ _ _ _ _ _).mono ?_; rintro e wK ⟨rfl, hbK⟩; have HK := HL.later (below_of_drew hbK); have TK := HK.there' hlt; have S1 := And.intro ((hbK.cell (p := ⟨mb, 3, none⟩) hlm.1).trans q5) (And.intro ((hbK.cell (p := ⟨b, o + k * 5, none⟩) hbr).trans q0) (And.intro ((hbK.cell (p := ⟨b, o + k * 5 + 1, none⟩) hbr).trans q1) (And.intro ((hbK.cell (p := ⟨b, o + k * 5 + 2, none⟩) hbr).trans q2) (And.intro ((hbK.cell (p := ⟨b, o + k * 5 + 3, none⟩) hbr).trans q3) ((hbK.cell (p := ⟨b, o + k * 5 + 4, none⟩) hbr).trans q4)))))))
              go_wp2
              go_roundw
              case rel => exact ⟨k + 1, by go_num, by omega, HK.put5 hlt⟩
              case measure => simp [intOf]; omega
            · obtain rfl : k = n3 := by omega
              go_wp2
              go_meet
              case rel => exact ⟨_, _, HL.blk, hr2.kept HL.gr, HL.rowN, hbel.grown HL.gr hbel.size (fun q hq => by cases hq; exact hmb)⟩
      case rest =>
        clear hblk hbel hr2 r3'
        obtain ⟨a3', c3', hblk, hr2, hr3, hbel⟩ := hcut
        have r4' := (r4.old hmb).kept (grown_of_below hbel _)
        go_upto_if 84 with fail
        go_cut [22] from 23 (fun _ wx => ∃ a c, wx.heap[mb]? = some (.cells (mazeCells x0 x1 (.slice a2' n2 c2') (.slice a3' n3 c3') (.slice a n4 c) 0 0 0 0) 64 (0, 0)) ∧ RowN mb wx a2' n2 4 f ∧ RowN mb wx a3' n3 5 g ∧ RowN mb wx a n4 2 h ∧ Below w.heap.size w wx)
        case first =>
          cases a4 with
          | none =>
            rcases r4 with r4 | ⟨b, o, e, _⟩
            · subst r4
              go_wp2
              go_meet
              case rel => exact ⟨none, 0, hblk, hr2, hr3, .inl rfl, hbel⟩
            · cases e
          | some ad =>
            have m0 : wc.cell? ⟨mb, 4, none⟩ = some (.slice none 0 0) := by simp [World.cell?, hblk, mazeCells]
            have m1 : wc.frozen? ⟨mb, 4, none⟩ = false := by simp [World.frozen?, hblk]
            have hml : mb < wc.heap.size := (Array.getElem?_eq_some_iff.1 hblk).1
            go_wp2_with (at_make; refine wpList_make_full _ rfl _ _ 61 rfl wc.heap.size 35 l0 _ 2 Try.underlying61 hl0 hl1 hl2 _ _ _ _ n4 rfl rfl rfl rfl ?c1 ?c2 ?c3 ?_)
            case c1 => rw [hl3]; omega
            case c2 => unfold maxLen; omega
            case c3 => exact Nat.le_refl _
            intro w1 hown hgrow
            have m2 : w1.cell? ⟨mb, 4, none⟩ = some (.slice none 0 0) := hgrow.cell m0 (by simp)
            have m3 : w1.frozen? ⟨mb, 4, none⟩ = false := (World.frozen?_of_block (a := ⟨mb, 4, none⟩) (hgrow.block mb hml (by simp))).trans m1
            have HL := linv_start (F := h) hown hgrow hblk 4
            clear hown hgrow m0 m1
            go_wp2
            go_loopw [22] (fun i wr => ∃ k : Nat, i = .int .i64 k ∧ k ≤ n4 ∧ LInv wc wr mb (mazeCells x0 x1 (.slice a2' n2 c2') (.slice a3' n3 c3') (.slice (some ⟨wc.heap.size, 0, none⟩) n4 n4) 0 0 0 0) wc.heap.size 35 n4 2 h k) (fun i _ => n4 - (intOf i).toNat)
            case atStart => exact ⟨0, rfl, Nat.zero_le _, HL⟩
            case round =>
              clear HL m2 m3
              obtain ⟨k, rfl, hk, HL⟩ := hrel
              by_cases hlt : k < n4
              · rcases r4' with r4' | ⟨b, o, e, hbm, hbl, hc⟩
                · omega
                cases e
                have hcx : ∀ q, wr.cell? ⟨b, q, none⟩ = wc.cell? ⟨b, q, none⟩ := fun q => World.cell?_of_block (a := ⟨b, q, none⟩) (HL.gr.block b hbl (by simpa using hbm))
                have q0 : wr.cell? ⟨b, o + k * 2, none⟩ = some (.int .i64 (h k 0)) := (hcx _).trans (hc k 0 hlt (by omega))
                have q1 : wr.cell? ⟨b, o + k * 2 + 1, none⟩ = some (.int .i64 (h k 1)) := (hcx _).trans (hc k 1 hlt (by omega))
                have q5 : wr.cell? ⟨mb, 4, none⟩ = some (.slice (some ⟨wc.heap.size, 0, none⟩) n4 n4) := HL.cell 4
                have hlm := HL.lt
                have hbr : b < wr.heap.size := Nat.lt_of_lt_of_le hbl HL.gr.size
                have hi1' : (0 : Int) ≤ (k : Int) := by omega
                have hi2' : (k : Int) < (n4 : Int) := by omega
                have ne1 : wc.heap.size ≠ mb := by omega
                have ne2 : wc.heap.size ≠ b := by omega
                have HK := HL.later ((Below.refl _ _).drew)
                have TK := HK.there' hlt
                clear hcx hc
                go_wp2
                go_region_held3 (fun w' => w'.cell? ⟨mb, 4, none⟩ = some (.slice (some ⟨wc.heap.size, 0, none⟩) n4 n4) ∧ w'.cell? ⟨b, o + k * 2, none⟩ = some (.int .i64 (h k 0)) ∧ w'.cell? ⟨b, o + k * 2 + 1, none⟩ = some (.int .i64 (h k 1)))
                  (simp [*, cell_setCells_far]) (fail)
                go_wp2
                go_roundw
                case rel => exact ⟨k + 1, by go_num, by omega, HK.put2 hlt⟩
                case measure => simp [intOf]; omega
              · obtain rfl : k = n4 := by omega
                go_wp2
                go_meet
                case rel => exact ⟨_, _, HL.blk, hr2.kept HL.gr, hr3.kept HL.gr, HL.rowN, hbel.grown HL.gr hbel.size (fun q hq => by cases hq; exact hmb)⟩
        case rest =>
          clear hblk hbel hr2 hr3 r4'
          obtain ⟨a4', c4', hblk, hr2, hr3, hr4, hbel⟩ := hcut
          have t5 : wc.there mb 5 2 := there_blk hblk (by simp [mazeCells])
          have t7 : (wc.setCells mb 5 [.int .i64 s0x, .int .i64 s0y]).there mb 7 2 := World.there_setCells (there_blk hblk (by simp [mazeCells])) _ _ _
          go_wp2
          go_ret
          obtain ⟨e4, g0⟩ := maze_fin (s0x := s0x) (s0y := s0y) (s1x := s1x) (s1y := s1y) hblk
          exact ⟨mb, a2', c2', a3', c3', a4', c4', rfl, e4, (hr2.kept g0).row, (hr3.kept g0).row, (hr4.kept g0).row, hbel.grown g0 hbel.size (fun q hq => by cases hq; exact hmb)⟩
end Go.Proofs.Qxb6630866a
