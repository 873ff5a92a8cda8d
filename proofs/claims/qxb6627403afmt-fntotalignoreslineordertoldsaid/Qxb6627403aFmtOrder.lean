/-
  The walk of FnTotalIgnoresLineOrder (4). Seat b6627403aF.
-/
import Derived.Test.Qxb6627403aFmtCut
import Derived.Test.Qxb6627403aFmtSwap
import Derived.Deep.CutRange
namespace Go.Proofs.Qxb6627403aFmt
open Go.RowKit Go.Extern.Stop Go.Stop Go.Extern
set_option linter.unusedVariables false
set_option linter.unusedSimpArgs false
attribute [local go_sem ↓] Go.wp_at_zero Go.wp_at_succ
attribute [local go_sem ↓] sto37_eq
attribute [local go_sem] run_sto37 run_sto37_new

set_option maxRecDepth 100000 in
set_option maxHeartbeats 2000000 in
theorem order_any (F : Interp) (id cid z y : Int) (a : Option Addr) (n c : Nat) (L : List It) (w : World) (hF : F.answers w.tape) (hl : L.length = n) (hr : RowL w a L) (hg : Rng L) (ha : a = none → n = 0) (hm : c ≤ maxLen) (hcap : n ≤ c) :
    Calls Tryf.prog 4 #[.int .i64 id, .int .i64 cid, .slice a n c, .int .i64 z, .int .i64 y] w fun e w' => e = .returned (.bool true) ∧ Below w.heap.size w w' := by
  have cz := zz10_any id cid z y a n c L w hl hr
  have cn := names_any a n c L w hl hr
  go_enter Tryf.func4, Tryf.ntmps4
  go_upto_region 5 with (go_at_call 10; refine cz.mono ?_; rintro e wK ⟨x, rfl, rfl⟩)
  · go_ret
    exact ⟨rfl, Below.refl _ _⟩
  · go_ret
    exact ⟨rfl, Below.refl _ _⟩
  · have hn : n ≤ 16384 := by omega
    replace cn := cn hn
    go_upto_region 7 with (go_at_call 6; refine cn.mono ?_; rintro e wK ⟨x2, rfl, rfl⟩)
    · go_ret
      exact ⟨rfl, Below.refl _ _⟩
    · clear cz cn
      by_cases hz : z < 0
      · go_wp2
        go_ret
        exact ⟨rfl, Below.refl _ _⟩
      have hz1 : decide (z < 0) = false := decide_eq_false hz
      by_cases hz2 : (n : Int) ≤ z
      · go_wp2
        go_ret
        exact ⟨rfl, Below.refl _ _⟩
      have hz3 : decide ((n : Int) ≤ z) = false := decide_eq_false hz2
      by_cases hy : y < 0
      · go_wp2
        go_ret
        exact ⟨rfl, Below.refl _ _⟩
      have hy1 : decide (y < 0) = false := decide_eq_false hy
      by_cases hy2 : (n : Int) ≤ y
      · go_wp2
        go_ret
        exact ⟨rfl, Below.refl _ _⟩
      have hy3 : decide ((n : Int) ≤ y) = false := decide_eq_false hy2
      obtain ⟨i, rfl⟩ : ∃ i : Nat, z = i := ⟨z.toNat, by omega⟩
      obtain ⟨j, rfl⟩ : ∃ j : Nat, y = j := ⟨y.toNat, by omega⟩
      have hi : i < n := by omega
      have hj : j < n := by omega
      clear hz hz2 hy hy2
      go_upto_region 9 with fail
      clear hz1 hz3 hy1 hy3
      go_cut [11] from 23 (fun v wx => ∃ r, v = .slice (some ⟨r, 0, none⟩) n n ∧ RowL wx (some ⟨r, 0, none⟩) L ∧ r < wx.heap.size ∧ Below w.heap.size w wx)
      case first =>
        have ct := toItems_any a n c L w hl hr hn
        go_wp2_with (go_at_call 7; refine ct.mono ?_; rintro e wK ⟨rfl, HT⟩)
        go_meet
        case rel => exact ⟨_, rfl, HT.rowL hl, HT.lt, HT.below⟩
      case rest =>
        obtain ⟨r0, rfl, hri, hr0l, hb0⟩ := hcut
        go_upto_region 10 with fail
        go_cut [12] from 23 (fun v wx => ∃ r, v = .slice (some ⟨r, 0, none⟩) n n ∧ SInv w wx r0 r n L L)
        case first =>
          have ct := toItems_any a n c L wc hl (hr.later hb0) hn
          go_wp2_with (go_at_call 7; refine ct.mono ?_; rintro e wK ⟨rfl, HT⟩)
          go_meet
          case rel => exact ⟨_, rfl, hb0.trans (HT.below.mono hb0.size), hri.later HT.below, HT.row, hb0.size, by omega, hl⟩
        case rest =>
          clear hri hb0 hr0l
          obtain ⟨r, rfl, HS⟩ := hcut
          go_upto_region 11 with fail
          go_cut [13] from 23 (fun v wx => ∃ x, v = .pointer (some ⟨x, 0, none⟩) ∧ SInv w wx r0 r n L L ∧ BoxAt wx x (L.getD i dIt) ∧ r ≠ x)
          case first =>
            have q0 := HS.cell hi (j := 0) (by omega)
            have q1 := HS.cell hi (j := 1) (by omega)
            have q2 := HS.cell hi (j := 2) (by omega)
            have q3 := HS.cell hi (j := 3) (by omega)
            have hnb := boxAt_new wc (L.getD i dIt)
            have hlt := HS.lt
            generalize hs : L.getD i dIt = s at q0 q1 q2 q3 hnb
            obtain ⟨s0, s1, v, s3⟩ := s
            simp only [cellOf, Nat.add_zero] at q0 q1 q2 q3 hnb
            have hi1 : (0 : Int) ≤ (i : Int) := by omega
            have hi2 : (i : Int) < (n : Int) := by omega
            have Hs : Hid (L.getD i dIt = (s0, s1, v, s3)) := hs
            clear hs
            go_wp2
            go_meet
            case rel => exact ⟨_, rfl, HS.alloc _, by rw [Hs.out]; exact hnb, by omega⟩
          case rest =>
            obtain ⟨x, rfl, HS, hx, hrx⟩ := hcut
            go_upto_region 12 with fail
            go_cut [14] from 23 (fun v wx => ∃ x2, v = .pointer (some ⟨x2, 0, none⟩) ∧ SInv w wx r0 r n L L ∧ BoxAt wx x2 (L.getD j dIt) ∧ r ≠ x2 ∧ BoxAt wx x (L.getD i dIt))
            case first =>
              have q0 := HS.cell hj (j := 0) (by omega)
              have q1 := HS.cell hj (j := 1) (by omega)
              have q2 := HS.cell hj (j := 2) (by omega)
              have q3 := HS.cell hj (j := 3) (by omega)
              have hnb := boxAt_new wc (L.getD j dIt)
              have hlt := HS.lt
              generalize hs : L.getD j dIt = s at q0 q1 q2 q3 hnb
              obtain ⟨s0, s1, v, s3⟩ := s
              simp only [cellOf, Nat.add_zero] at q0 q1 q2 q3 hnb
              have hi1 : (0 : Int) ≤ (j : Int) := by omega
              have hi2 : (j : Int) < (n : Int) := by omega
              have Hs : Hid (L.getD j dIt = (s0, s1, v, s3)) := hs
              clear hs
              go_wp2
              go_meet
              case rel => exact ⟨_, rfl, HS.alloc _, by rw [Hs.out]; exact hnb, by omega, hx.alloc _⟩
            case rest =>
              obtain ⟨x2, rfl, HS, hx2, hrx2, hx⟩ := hcut
              go_upto_region 13 with fail
              go_cut [] from 23 (fun wx => SInv w wx r0 r n L (L.set i (L.getD j dIt)) ∧ BoxAt wx x (L.getD i dIt))
              case first =>
                have q0 := hx2.2 0 (by omega)
                have q1 := hx2.2 1 (by omega)
                have q2 := hx2.2 2 (by omega)
                have q3 := hx2.2 3 (by omega)
                have HP := HS.write hi (L.getD j dIt)
                have ht := HS.there hi
                generalize L.getD j dIt = s at *
                obtain ⟨s0, s1, v, s3⟩ := s
                simp only [cellOf, Nat.add_zero] at q0 q1 q2 q3 HP
                have hi1 : (0 : Int) ≤ (i : Int) := by omega
                have hi2 : (i : Int) < (n : Int) := by omega
                go_wp2
                go_meet
                case rel => exact ⟨HP, hx.write hrx _ _ _ _⟩
              case rest =>
                obtain ⟨HS, hx⟩ := hcut
                clear hx2
                generalize hM : L.set i (L.getD j dIt) = M1 at HS
                go_upto_region 14 with fail
                go_cut [] from 23 (fun wx => SInv w wx r0 r n L (M1.set j (L.getD i dIt)))
                case first =>
                  have q0 := hx.2 0 (by omega)
                  have q1 := hx.2 1 (by omega)
                  have q2 := hx.2 2 (by omega)
                  have q3 := hx.2 3 (by omega)
                  have HP := HS.write hj (L.getD i dIt)
                  have ht := HS.there hj
                  generalize L.getD i dIt = s at *
                  obtain ⟨s0, s1, v, s3⟩ := s
                  simp only [cellOf, Nat.add_zero] at q0 q1 q2 q3 HP
                  have hi1 : (0 : Int) ≤ (j : Int) := by omega
                  have hi2 : (j : Int) < (n : Int) := by omega
                  go_wp2
                  go_meet
                  case rel => exact HP
                case rest =>
                  have HM : SInv w wc r0 r n L (swp L i j) := by unfold swp; rw [hM]; exact hcut
                  have hsw := swp_sum L i j (by omega) (by omega)
                  have hgw := swp_rng L i j (by omega) (by omega) hg
                  have Hgw : Hid (sumL (swp L i j) = sumL L) := hsw
                  clear hM hcut HS hx hrx hrx2 hsw
                  go_wp2
                  go_loopw [15, 16] (fun vl vh wr => ∃ (l h : Nat) (M : List It), vl = .int .i64 l ∧ vh = .int .i64 h ∧ l ≤ h + 1 ∧ l + h + 1 = n ∧ SInv w wr r0 r n L M ∧ Hid (sumL M = sumL L) ∧ Rng M) (fun vl vh _ => (intOf vh - intOf vl).toNat)
                  case atStart => exact ⟨0, n - 1, _, rfl, by go_num, by omega, by omega, HM, Hgw, hgw⟩
                  case round =>
                    clear HM Hgw hgw
                    obtain ⟨l, h, M, rfl, rfl, hlh, hlh1, HS, hsum, hgM⟩ := hrel
                    by_cases hlt0 : l < h
                    · have hl' : l < n := by omega
                      have hh : h < n := by omega
                      have hlt : (l : Int) < (h : Int) := by omega
                      go_upto_region 18 with fail
                      go_cut [17] from 77 to 99 (fun v wx => ∃ x, v = .pointer (some ⟨x, 0, none⟩) ∧ SInv w wx r0 r n L M ∧ BoxAt wx x (M.getD l dIt) ∧ r ≠ x)
                      case first =>
                        have q0 := HS.cell hl' (j := 0) (by omega)
                        have q1 := HS.cell hl' (j := 1) (by omega)
                        have q2 := HS.cell hl' (j := 2) (by omega)
                        have q3 := HS.cell hl' (j := 3) (by omega)
                        have hnb := boxAt_new wr (M.getD l dIt)
                        have hlt := HS.lt
                        generalize hs : M.getD l dIt = s at q0 q1 q2 q3 hnb
                        obtain ⟨s0, s1, v, s3⟩ := s
                        simp only [cellOf, Nat.add_zero] at q0 q1 q2 q3 hnb
                        have hi1 : (0 : Int) ≤ (l : Int) := by omega
                        have hi2 : (l : Int) < (n : Int) := by omega
                        have Hs : Hid (M.getD l dIt = (s0, s1, v, s3)) := hs
                        clear hs
                        go_wp2
                        go_meet
                        case rel => exact ⟨_, rfl, HS.alloc _, by rw [Hs.out]; exact hnb, by omega⟩
                      case rest =>
                        obtain ⟨x, rfl, HS, hx, hrx⟩ := hcut
                        go_upto_region 19 with fail
                        go_cut [18] from 77 to 99 (fun v wx => ∃ x2, v = .pointer (some ⟨x2, 0, none⟩) ∧ SInv w wx r0 r n L M ∧ BoxAt wx x2 (M.getD h dIt) ∧ r ≠ x2 ∧ BoxAt wx x (M.getD l dIt))
                        case first =>
                          have q0 := HS.cell hh (j := 0) (by omega)
                          have q1 := HS.cell hh (j := 1) (by omega)
                          have q2 := HS.cell hh (j := 2) (by omega)
                          have q3 := HS.cell hh (j := 3) (by omega)
                          have hnb := boxAt_new wc (M.getD h dIt)
                          have hlt := HS.lt
                          generalize hs : M.getD h dIt = s at q0 q1 q2 q3 hnb
                          obtain ⟨s0, s1, v, s3⟩ := s
                          simp only [cellOf, Nat.add_zero] at q0 q1 q2 q3 hnb
                          have hi1 : (0 : Int) ≤ (h : Int) := by omega
                          have hi2 : (h : Int) < (n : Int) := by omega
                          have Hs : Hid (M.getD h dIt = (s0, s1, v, s3)) := hs
                          clear hs
                          go_wp2
                          go_meet
                          case rel => exact ⟨_, rfl, HS.alloc _, by rw [Hs.out]; exact hnb, by omega, hx.alloc _⟩
                        case rest =>
                          obtain ⟨x2, rfl, HS, hx2, hrx2, hx⟩ := hcut
                          go_upto_region 20 with fail
                          go_cut [] from 77 to 99 (fun wx => SInv w wx r0 r n L (M.set l (M.getD h dIt)) ∧ BoxAt wx x (M.getD l dIt))
                          case first =>
                            have q0 := hx2.2 0 (by omega)
                            have q1 := hx2.2 1 (by omega)
                            have q2 := hx2.2 2 (by omega)
                            have q3 := hx2.2 3 (by omega)
                            have HP := HS.write hl' (M.getD h dIt)
                            have ht := HS.there hl'
                            generalize M.getD h dIt = s at *
                            obtain ⟨s0, s1, v, s3⟩ := s
                            simp only [cellOf, Nat.add_zero] at q0 q1 q2 q3 HP
                            have hi1 : (0 : Int) ≤ (l : Int) := by omega
                            have hi2 : (l : Int) < (n : Int) := by omega
                            go_wp2
                            go_meet
                            case rel => exact ⟨HP, hx.write hrx _ _ _ _⟩
                          case rest =>
                            obtain ⟨HS, hx⟩ := hcut
                            clear hx2
                            generalize hM : M.set l (M.getD h dIt) = M1 at HS
                            have q0 := hx.2 0 (by omega)
                            have q1 := hx.2 1 (by omega)
                            have q2 := hx.2 2 (by omega)
                            have q3 := hx.2 3 (by omega)
                            have HM : SInv w (wc.setCells r (h * 4) [cellOf (M.getD l dIt) 0, cellOf (M.getD l dIt) 1, cellOf (M.getD l dIt) 2, cellOf (M.getD l dIt) 3]) r0 r n L (swp M l h) := by unfold swp; rw [hM]; exact HS.write hh _
                            have hM2 : M.length = n := by rw [← HM.len, swp_length]
                            have hsw : Hid (sumL (swp M l h) = sumL L) := (swp_sum M l h (by omega) (by omega)).trans hsum
                            have hgw := swp_rng M l h (by omega) (by omega) hgM
                            have ht := HS.there hh
                            generalize M.getD l dIt = s at HM q0 q1 q2 q3
                            obtain ⟨s0, s1, v, s3⟩ := s
                            simp only [cellOf, Nat.add_zero] at q0 q1 q2 q3 HM
                            have hi1 : (0 : Int) ≤ (h : Int) := by omega
                            have hi2 : (h : Int) < (n : Int) := by omega
                            clear hM HS hx hrx hrx2 hsum
                            go_wp2
                            go_roundw
                            case rel => exact ⟨l + 1, h - 1, _, by go_num, by go_num, by omega, by omega, HM, hsw, hgw⟩
                            case measure => simp [intOf]; omega
                    · have hlt : (h : Int) ≤ (l : Int) := by omega
                      go_upto_region 22 with fail
                      have hF0 : F.answers wr.tape := by rw [HS.below.tape]; exact hF
                      have hMl := HS.len
                      go_cut [19, 20] from 23 (fun v u wx => v = .int .i64 (tot (sumL L)) ∧ Ev (sumL L) u ∧ Below wr.heap.size wr wx)
                      case first =>
                        have ct := total_ev F id cid (some ⟨r0, 0, none⟩) n n L wr hF0 hl HS.items hg hn
                        go_wp2_with (go_at_call 8; refine ct.mono ?_; rintro e wK ⟨v, rfl, hv, hbK⟩)
                        go_meet
                        case rel => exact ⟨rfl, hv, hbK⟩
                      case rest =>
                        obtain ⟨rfl, hv20, hb1⟩ := hcut
                        have hrM := HS.rowL.later hb1
                        have hr1 := (hr.later HS.below).later hb1
                        have hF1 : F.answers wc.tape := by rw [hb1.tape]; exact hF0
                        have hb0 := HS.below.trans (hb1.mono HS.below.size)
                        clear hb1 HS hF0
                        go_upto_region 23 with fail
                        go_cut [21, 22] from 23 (fun v u wx => v = .int .i64 (tot (sumL L)) ∧ Ev (sumL L) u ∧ Below wc.heap.size wc wx)
                        case first =>
                          have ct := total_ev F id cid (some ⟨r, 0, none⟩) n n M wc hF1 hMl hrM hgM hn
                          rw [(show sumL M = sumL L from hsum)] at ct
                          go_wp2_with (go_at_call 8; refine ct.mono ?_; rintro e wK ⟨v, rfl, hv, hbK⟩)
                          go_meet
                          case rel => exact ⟨rfl, hv, hbK⟩
                        case rest =>
                          obtain ⟨rfl, hv22, hb1⟩ := hcut
                          replace hr1 := hr1.later hb1
                          replace hb0 := hb0.trans (hb1.mono hb0.size)
                          clear hb1 hrM hF1 hgM hsum hMl
                          go_upto_region 24 with fail
                          have cm : ∀ (f : Bool), (f = true ↔ ¬ fits (sumL L)) → ∀ nq, Calls Tryf.prog 9 #[.int .i64 (tot (sumL L)), .bool f, .slice a n c] (wc.drewN nq) fun e w' => e = .returned (.bool true) ∧ w' = wc.drewN nq := fun f hf nq =>
                            matches_ev a n c L (wc.drewN nq) hl (hr1.later (below_drewN (Below.refl _ _) nq)) hg hn f hf
                          rcases hv20 with ⟨hf, rfl⟩ | ⟨hf, p, rfl⟩
                          · rcases hv22 with ⟨hf2, rfl⟩ | ⟨hf2, p2, rfl⟩
                            · have cm' := cm false ⟨fun h => (by cases h), fun h => absurd hf h⟩
                              clear cm
                              generalize tot (sumL L) = t0 at *
                              go_quiet (first | (go_at_call 9; refine Calls.quiet_of_same (cm' _)))
                              go_wp2
                              go_ret
                              exact ⟨rfl, below_drewN hb0 _⟩
                            · exact absurd hf hf2
                          · rcases hv22 with ⟨hf2, rfl⟩ | ⟨hf2, p2, rfl⟩
                            · exact absurd hf2 hf
                            · have cm' := cm true ⟨fun _ => hf, fun _ => rfl⟩
                              clear cm
                              generalize tot (sumL L) = t0 at *
                              go_quiet (first | (go_at_call 9; refine Calls.quiet_of_same (cm' _)))
                              go_wp2
                              go_ret
                              exact ⟨rfl, below_drewN hb0 _⟩
end Go.Proofs.Qxb6627403aFmt
