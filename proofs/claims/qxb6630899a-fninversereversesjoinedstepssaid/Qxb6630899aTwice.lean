/-
  The walk of FnInverseTwiceKeepsInvertibleSteps (3). Seat b6630899a.
-/
import Derived.Test.Qxb6630899aBytes
import Derived.Test.Qxb6630899aPlain
import Derived.Deep.RegionWith
namespace Go.Proofs.Qxb6630899a
open Go.RowKit
set_option linter.unusedVariables false
attribute [local go_sem ↓] Go.wp_at_zero Go.wp_at_succ

theorem PathsOk.later {w w' : World} {L : List St} (h : PathsOk w L) (hb : Below w.heap.size w w') : PathsOk w' L := fun i hi => ⟨(h i hi).1.later hb, (h i hi).2.later hb⟩

/-- An entry's block. -/
def EntAt (w : World) (e : Nat) (c1 c2 c3 c4 : ByteArray) (v : Value) : Prop := e < w.heap.size ∧ ∀ q, w.cell? ⟨e, q, none⟩ = (#[.string c1, .string c2, .string c3, .string c4, v] : Array Value)[q]?

theorem EntAt.later {w w' : World} {e : Nat} {c1 c2 c3 c4 : ByteArray} {v : Value} (h : EntAt w e c1 c2 c3 c4 v) (hb : Below w.heap.size w w') : EntAt w' e c1 c2 c3 c4 v :=
  ⟨Nat.lt_of_lt_of_le h.1 hb.size, fun q => (hb.cell (p := ⟨e, q, none⟩) h.1).trans (h.2 q)⟩

theorem entAt_new (w : World) (c1 c2 c3 c4 : ByteArray) (v : Value) : EntAt (w.alloc (.cells #[.string c1, .string c2, .string c3, .string c4, v] 26)) w.heap.size c1 c2 c3 c4 v :=
  ⟨by simp, fun q => cell_new _ _ _ _⟩

set_option maxRecDepth 100000 in
set_option maxHeartbeats 2000000 in
theorem twice_any (c1 c2 c3 c4 : ByteArray) (a : Option Addr) (n c : Nat) (L : List St) (w : World) (hl : L.length = n) (hr : RowL w a L) (hp : PathsOk w L) (ha : a = none → n = 0) :
    Calls Try.prog 3 #[.string c1, .string c2, .string c3, .string c4, .slice a n c] w fun e w' => e = .returned (.bool true) ∧ Below w.heap.size w w' := by
  have cz := zz5_any c1 c2 c3 c4 a n c L w hl hr hp
  have cs := sizeOK_any c1 c2 c3 c4 a n c L w hl hr hp
  have ct := toEntry_any c1 c2 c3 c4 a n c L w hl hr ha
  go_enter Try.func3, Try.ntmps3
  go_upto_region 3 with (go_at_call 5; refine cz.mono ?_; rintro e wK ⟨x, rfl, hx, rfl⟩)
  · go_ret
    exact ⟨rfl, Below.refl _ _⟩
  · have hsm := hx (by cases x <;> simp_all)
    have hn : n ≤ 1048576 := hl ▸ hsm.1
    replace cs := cs hsm
    replace ct := ct hn
    go_upto_region 5 with (go_at_call 6; refine cs.mono ?_; rintro e wK ⟨y, rfl, rfl⟩)
    · go_ret
      exact ⟨rfl, Below.refl _ _⟩
    · clear cz cs
      go_cut [11] from 17 (fun v wx => ∃ eb a1 k1, v = .pointer (some ⟨eb, 0, none⟩) ∧ EntAt wx eb c1 c2 c3 c4 (.slice a1 n k1) ∧ RowL wx a1 L ∧ Below w.heap.size w wx)
      case first =>
        go_wp2_with (go_at_call 7; refine ct.mono ?_; rintro e wK ⟨a1, k1, rfl, hr1, hbK⟩; simp only [entCells])
        go_meet
        case rel =>
          have hb1 := (Below.refl wK.heap.size wK).alloc (Nat.le_refl _) (.cells #[.string c1, .string c2, .string c3, .string c4, .slice a1 n k1] 26)
          exact ⟨_, a1, k1, rfl, entAt_new _ _ _ _ _ _, hr1.later hb1, hbK.trans (hb1.mono hbK.size)⟩
      case rest =>
        obtain ⟨eb, a1, k1, rfl, ⟨hel, hec⟩, hr1, hb1⟩ := hcut
        have ci := inv_any c1 c2 c3 c4 a1 n k1 L wc hl hr1 hn
        clear ct
        go_upto_region 6 with fail
        go_cut [12] from 17 (fun v wx => ∃ fb a2 k2, v = .pointer (some ⟨fb, 0, none⟩) ∧ EntAt wx fb c1 c2 c4 c3 (.slice a2 (invL L 0).length k2) ∧ RowL wx a2 (invL L 0) ∧ Below w.heap.size w wx)
        case first =>
          go_wp2_with (go_at_call 8; refine ci.mono ?_; rintro e wK ⟨a2, k2, rfl, hr2, hbK⟩; simp only [entCells])
          go_meet
          case rel =>
            have hbA := (Below.refl wK.heap.size wK).alloc (Nat.le_refl _) (.cells #[.string c1, .string c2, .string c4, .string c3, .slice a2 (invL L 0).length k2] 26)
            exact ⟨_, a2, k2, rfl, entAt_new _ _ _ _ _ _, hr2.later hbA, (hb1.trans (hbK.mono hb1.size)).trans (hbA.mono (Nat.le_trans hb1.size hbK.size))⟩
        case rest =>
          clear ci hec hel hr1 hb1
          obtain ⟨fb, a2, k2, rfl, ⟨hel, hec⟩, hr2, hb2⟩ := hcut
          have hM : (invL L 0).length ≤ 1048576 := Nat.le_trans (invL_le L 0) hsm.1
          have ci := inv_any c1 c2 c4 c3 a2 _ k2 (invL L 0) wc rfl hr2 hM
          rw [inv_twice] at ci
          generalize (invL L 0).length = m2 at *
          go_upto_region 9 with fail
          go_cut [13] from 17 (fun v wx => ∃ gb a3 k3, v = .pointer (some ⟨gb, 0, none⟩) ∧ EntAt wx gb c1 c2 c3 c4 (.slice a3 (L.filter can).length k3) ∧ RowL wx a3 (L.filter can) ∧ Below w.heap.size w wx)
          case first =>
            go_wp2_with (go_at_call 8; refine ci.mono ?_; rintro e wK ⟨a3, k3, rfl, hr3, hbK⟩; simp only [entCells])
            go_meet
            case rel =>
              have hbA := (Below.refl wK.heap.size wK).alloc (Nat.le_refl _) (.cells #[.string c1, .string c2, .string c3, .string c4, .slice a3 (L.filter can).length k3] 26)
              exact ⟨_, a3, k3, rfl, entAt_new _ _ _ _ _ _, hr3.later hbA, (hb2.trans (hbK.mono hb2.size)).trans (hbA.mono (Nat.le_trans hb2.size hbK.size))⟩
          case rest =>
            clear ci hec hel hr2 hb2
            obtain ⟨gb, a3, k3, rfl, hE, hr3, hb3⟩ := hcut
            have hec := hE.2
            have hrc := hr.later hb3
            have hpc := hp.later hb3
            have hmn : (L.filter can).length ≤ n := hl ▸ List.length_filter_le _ _
            clear hr hp hx
            go_wp2
            go_loopw [14, 15] (fun t i wr => ∃ k : Nat, t = .int .i64 ((L.take k).filter can).length ∧ i = .int .i64 k ∧ k ≤ n ∧ Below wc.heap.size wc wr) (fun _ i _ => n - (intOf i).toNat)
            case atStart => exact ⟨0, by simp, rfl, Nat.zero_le _, Below.refl _ _⟩
            case round =>
              obtain ⟨k, rfl, rfl, hk, hbr⟩ := hrel
              have hecr := (hE.later hbr).2
              clear hec
              by_cases hlt : k < n
              · have hrr := hrc.later hbr
                have hpr := hpc.later hbr
                have hr3r := hr3.later hbr
                clear hrc hpc hr3
                rcases hrr with hrr | ⟨b, o, e, hbl, hc⟩
                · subst hrr; simp at hl; omega
                subst e
                have q0 := hc k 0 (by omega) (by omega)
                have q1 := hc k 1 (by omega) (by omega)
                have q2 := hc k 2 (by omega) (by omega)
                have hpk := hpr k (by omega)
                have hsk := hsm.2 k (by omega)
                have hi1' : (0 : Int) ≤ (k : Int) := by omega
                have hi2' : (k : Int) < (n : Int) := by omega
                clear hc hpr
                cases hcan : can (L.getD k dSt) with
                | false =>
                  have hfs := filter_skip can L k (by omega) hcan
                  generalize hs : L.getD k dSt = s at q0 q1 q2 hpk hsk hcan
                  obtain ⟨op, ⟨fa, fn, fc⟩, ⟨ta, tn, tc⟩⟩ := s
                  simp only [cellOf, Nat.add_zero] at q0 q1 q2 hpk hsk
                  have cv := invertible_any op wr (x := false) hcan
                  have Hf : Hid (((L.take (k + 1)).filter can).length = ((L.take k).filter can).length) := hfs
                  clear hs hfs hcan
                  go_wp2_with (go_at_call 9; refine cv.mono ?_; rintro e wK ⟨rfl, rfl⟩)
                  go_roundw
                  case rel => exact ⟨k + 1, by rw [(show _ = _ from Hf)], by go_num, by omega, hbr⟩
                  case measure => simp [intOf]; omega
                | true =>
                  obtain ⟨f1, f2, f3⟩ := filter_at can L k (by omega) hcan
                  rcases hr3r with hr3r | ⟨b3, o3, e, hbl3, hc3⟩
                  · rw [hr3r] at f2; simp at f2
                  subst e
                  have z0 := hc3 _ 0 f2 (by omega)
                  have z1 := hc3 _ 1 f2 (by omega)
                  have z2 := hc3 _ 2 f2 (by omega)
                  rw [f1] at z0 z1 z2
                  generalize hs : L.getD k dSt = s at q0 q1 q2 hpk hsk hcan z0 z1 z2
                  obtain ⟨op, ⟨fa, fn, fc⟩, ⟨ta, tn, tc⟩⟩ := s
                  simp only [cellOf, Nat.add_zero] at q0 q1 q2 hpk hsk z0 z1 z2
                  obtain ⟨hpf, hpt⟩ := hpk
                  obtain ⟨hsf, hst⟩ := hsk
                  have cv := invertible_any op wr (x := true) hcan
                  generalize hT : ((L.take k).filter can).length = t at f2 f3 z0 z1 z2
                  have Hf : Hid (((L.take (k + 1)).filter can).length = t + 1) := f3
                  clear hs hcan f1 f3 hT hc3
                  generalize (L.filter can).length = m3 at *
                  have hj1' : (0 : Int) ≤ (t : Int) := by omega
                  have hj2' : (t : Int) < (m3 : Int) := by omega
                  have hbo : b < wr.heap.size := hbl
                  have c5 : ∀ w', Below wr.heap.size wr w' → PathOk w' (fa, fn, fc) := fun w' hb => hpf.later hb
                  have c6 : ∀ w', Below wr.heap.size wr w' → PathOk w' (ta, tn, tc) := fun w' hb => hpt.later hb
                  have ne1 : b ≠ wr.heap.size := by omega
                  clear hpf hpt
                  go_wp2_with (go_at_call 9; refine cv.mono ?_; rintro e wK ⟨rfl, rfl⟩)
                  go_quiet (first
                    | (go_at_call_of 10 (Value.slice fa fn fc); refine Calls.quiet_of (pathEq_any (fa, fn, fc) _ (c5 _ ?_) hsf); exact below_drewN ((Below.refl _ _).alloc (Nat.le_refl _) _) _)
                    | (go_at_call_of 10 (Value.slice ta tn tc); refine Calls.quiet_of (pathEq_any (ta, tn, tc) _ (c6 _ ?_) hst); exact below_drewN ((Below.refl _ _).alloc (Nat.le_refl _) _) _))
                  go_wp2
                  go_roundw
                  case rel => exact ⟨k + 1, by rw [(show _ = _ from Hf)]; go_num, by go_num, by omega, hbr.trans (below_drewN ((Below.refl _ _).alloc hbr.size _) _)⟩
                  case measure => simp [intOf]; omega
              · obtain rfl : k = n := by omega
                have e1 : L.take k = L := List.take_of_length_le (by omega)
                rw [e1]
                generalize (L.filter can).length = m3 at *
                go_wp2
                go_ret
                exact ⟨rfl, hb3.trans (hbr.mono hb3.size)⟩
end Go.Proofs.Qxb6630899a
