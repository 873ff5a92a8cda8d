/-
  The walk of FnTotalAgreesAtAnyCut (3). Seat b6627403aF.
-/
import Derived.Test.Qxb6627403aFmtTotal
import Derived.Test.Qxb6627403aFmtExact
import Derived.Test.Qxb6627403aFmtItems
import Derived.Deep.RegionWith
namespace Go.Proofs.Qxb6627403aFmt
open Go.RowKit Go.Extern.Stop Go.Stop Go.Extern
set_option linter.unusedVariables false
set_option linter.unusedSimpArgs false
attribute [local go_sem ↓] Go.wp_at_zero Go.wp_at_succ

/-- The error that Total hands back for the sum S. -/
def Ev (S : Int) (v : Value) : Prop := (fits S ∧ v = .nilIface) ∨ (¬ fits S ∧ ∃ p, v = .iface 53 (.pointer (some p)))

theorem total_ev (F : Interp) (id cid : Int) (a : Option Addr) (n c : Nat) (L : List It) (w : World) (hF : F.answers w.tape) (hl : L.length = n) (hr : RowL w a L) (hg : Rng L) (hn : n ≤ 16384) :
    Calls Tryf.prog 8 #[.agg #[.int .i64 id, .int .i64 cid, .slice a n c]] w fun e w' =>
      ∃ v, e = .returned (.tuple #[.int .i64 (tot (sumL L)), v]) ∧ Ev (sumL L) v ∧ Below w.heap.size w w' :=
  (total_any F id cid a n c L w hF hl hr hg hn).mono fun e w' h => by
    rcases h with ⟨⟨hf, rfl⟩ | ⟨hf, p, rfl⟩, hb⟩
    · exact ⟨_, by rw [tot_fits hf], .inl ⟨hf, rfl⟩, hb⟩
    · exact ⟨_, by rw [tot_not hf], .inr ⟨hf, p, rfl⟩, hb⟩

theorem rowL_take {w : World} {a : Option Addr} {L : List It} (k : Nat) (h : RowL w a L) : RowL w a (L.take k) := by
  rcases h with rfl | ⟨b, o, e, hlt, hc⟩
  · exact .inl (by simp)
  · refine .inr ⟨b, o, e, hlt, fun i j hi hj => ?_⟩
    have hi' : i < k ∧ i < L.length := by simp at hi; omega
    rw [hc i j hi'.2 hj]
    simp [List.getD, List.getElem?_take, hi'.1]

theorem rowL_drop {w : World} {ad : Addr} {L : List It} (k : Nat) (h : RowL w (some ad) L) : RowL w (some (ad.add (k * 4))) (L.drop k) := by
  rcases h with rfl | ⟨b, o, e, hlt, hc⟩
  · exact .inl (by simp)
  · cases e
    rw [Go.WideShapes.add_plain]
    refine .inr ⟨_, _, rfl, hlt, fun i j hi hj => ?_⟩
    have hi' : k + i < L.length := by simp at hi; omega
    have := hc (k + i) j hi' hj
    rw [show o + k * 4 + i * 4 + j = o + (k + i) * 4 + j by omega, this]
    simp [List.getD, List.getElem?_drop]

theorem Rng.take {L : List It} (h : Rng L) (k : Nat) : Rng (L.take k) := fun i hi => by
  have hi' : i < k ∧ i < L.length := by simp at hi; omega
  have := h i hi'.2
  simpa [List.getD, List.getElem?_take, hi'.1] using this
theorem Rng.drop {L : List It} (h : Rng L) (k : Nat) : Rng (L.drop k) := fun i hi => by
  have hi' : k + i < L.length := by simp at hi; omega
  have := h (k + i) hi'
  simpa [List.getD, List.getElem?_drop] using this

/-- matchesSum on Total's answer. -/
theorem matches_ev (a : Option Addr) (n c : Nat) (L : List It) (w : World) (hl : L.length = n) (hr : RowL w a L) (hg : Rng L) (hn : n ≤ 16384) (f : Bool) (hf : f = true ↔ ¬ fits (sumL L)) :
    Calls Tryf.prog 9 #[.int .i64 (tot (sumL L)), .bool f, .slice a n c] w fun e w' => e = .returned (.bool true) ∧ w' = w := by
  refine (matches_any a n c L (tot (sumL L)) f w hl hr hg hn ?_).mono fun e w' h => ⟨h.1, h.2.symm⟩
  by_cases h : fits (sumL L)
  · exact .inl ⟨h, tot_fits h, by cases f <;> simp_all⟩
  · exact .inr ⟨h, tot_not h, hf.2 h⟩

set_option maxRecDepth 100000 in
set_option maxHeartbeats 2000000 in
theorem cut_any (F : Interp) (id cid z : Int) (a : Option Addr) (n c : Nat) (L : List It) (w : World) (hF : F.answers w.tape) (hl : L.length = n) (hr : RowL w a L) (hg : Rng L) (ha : a = none → n = 0) (hm : c ≤ maxLen) (hcap : n ≤ c) :
    Calls Tryf.prog 3 #[.int .i64 id, .int .i64 cid, .slice a n c, .int .i64 z] w fun e w' => e = .returned (.bool true) ∧ Below w.heap.size w w' := by
  have cz := zz5_any id cid z a n c L w hl hr
  have cn := names_any a n c L w hl hr
  go_enter Tryf.func3, Tryf.ntmps3
  go_upto_region 5 with (go_at_call 5; refine cz.mono ?_; rintro e wK ⟨x, rfl, rfl⟩)
  · go_ret
    exact ⟨rfl, Below.refl _ _⟩
  · go_ret
    exact ⟨rfl, Below.refl _ _⟩
  · have hn : n ≤ 16384 := by omega
    replace cn := cn hn
    go_upto_region 7 with (go_at_call 6; refine cn.mono ?_; rintro e wK ⟨y, rfl, rfl⟩)
    · go_ret
      exact ⟨rfl, Below.refl _ _⟩
    · clear cz cn
      by_cases hz : z < 0 ∨ (n : Int) < z
      · rcases hz with hz | hz
        · go_wp2
          go_ret
          exact ⟨rfl, Below.refl _ _⟩
        · have hz1 : decide (z < 0) = false := decide_eq_false (by omega)
          go_wp2
          go_ret
          exact ⟨rfl, Below.refl _ _⟩
      · obtain ⟨k, rfl⟩ : ∃ k : Nat, z = k := ⟨z.toNat, by omega⟩
        have hk : k ≤ n := by omega
        clear hz
        go_upto_region 9 with fail
        go_cut [9] from 20 (fun v wx => ∃ r, v = .slice (some ⟨r, 0, none⟩) n n ∧ RowL wx (some ⟨r, 0, none⟩) L ∧ Below w.heap.size w wx)
        case first =>
          have ct := toItems_any a n c L w hl hr hn
          go_wp2_with (go_at_call 7; refine ct.mono ?_; rintro e wK ⟨rfl, HT⟩)
          go_meet
          case rel => exact ⟨_, rfl, HT.rowL hl, HT.below⟩
        case rest =>
          obtain ⟨r, rfl, hri, hb0⟩ := hcut
          have hr0 := hr.later hb0
          have hF0 : F.answers wc.tape := by rw [hb0.tape]; exact hF
          clear hr hF
          go_upto_region 10 with fail
          go_cut [10, 11] from 20 (fun v u wx => v = .int .i64 (tot (sumL L)) ∧ Ev (sumL L) u ∧ Below wc.heap.size wc wx)
          case first =>
            have ct := total_ev F id cid (some ⟨r, 0, none⟩) n n L wc hF0 hl hri hg hn
            go_wp2_with (go_at_call 8; refine ct.mono ?_; rintro e wK ⟨v, rfl, hv, hbK⟩)
            go_meet
            case rel => exact ⟨rfl, hv, hbK⟩
          case rest =>
            obtain ⟨rfl, hv11, hb1⟩ := hcut
            replace hri := hri.later hb1
            replace hr0 := hr0.later hb1
            replace hF0 : F.answers wc.tape := by rw [hb1.tape]; exact hF0
            replace hb0 := hb0.trans (hb1.mono hb0.size)
            clear hb1
            go_upto_region 11 with fail
            go_cut [12, 13] from 20 (fun v u wx => v = .int .i64 (tot (sumL (L.take k))) ∧ Ev (sumL (L.take k)) u ∧ Below wc.heap.size wc wx)
            case first =>
              have hi1 : (0 : Int) ≤ (k : Int) := by omega
              have hi2 : (k : Int) ≤ (n : Int) := by omega
              have ct := total_ev F id cid (some ⟨r, 0, none⟩) k n (L.take k) wc hF0 (by simp; omega) (rowL_take k hri) (hg.take k) (by omega)
              go_wp2_with (go_at_call 8; refine ct.mono ?_; rintro e wK ⟨v, rfl, hv, hbK⟩)
              go_meet
              case rel => exact ⟨rfl, hv, hbK⟩
            case rest =>
              obtain ⟨rfl, hv13, hb1⟩ := hcut
              replace hri := hri.later hb1
              replace hr0 := hr0.later hb1
              replace hF0 : F.answers wc.tape := by rw [hb1.tape]; exact hF0
              replace hb0 := hb0.trans (hb1.mono hb0.size)
              clear hb1
              go_upto_region 12 with fail
              go_cut [14, 15] from 20 (fun v u wx => v = .int .i64 (tot (sumL (L.drop k))) ∧ Ev (sumL (L.drop k)) u ∧ Below wc.heap.size wc wx)
              case first =>
                have hi1 : (0 : Int) ≤ (k : Int) := by omega
                have hi2 : (k : Int) ≤ (n : Int) := by omega
                by_cases hnk : n = k
                · subst hnk
                  have hd : L.drop n = [] := List.drop_eq_nil_of_le (by omega)
                  have ct := total_ev F id cid (some ⟨r, 0, none⟩) 0 0 (L.drop n) wc hF0 (by rw [hd]; rfl) (.inl hd) (hg.drop n) (by omega)
                  clear hd
                  go_wp2_with (go_at_call 8; refine ct.mono ?_; rintro e wK ⟨v, rfl, hv, hbK⟩)
                  go_meet
                  case rel => exact ⟨rfl, hv, hbK⟩
                · have hrd := rowL_drop k hri
                  rw [Go.WideShapes.add_plain] at hrd
                  have ct := total_ev F id cid _ (n - k) (n - k) (L.drop k) wc hF0 (by simp; omega) hrd (hg.drop k) (by omega)
                  simp only [Nat.zero_add] at ct
                  go_wp2_with (go_at_call 8; refine ct.mono ?_; rintro e wK ⟨v, rfl, hv, hbK⟩)
                  go_meet
                  case rel => exact ⟨rfl, hv, hbK⟩
              case rest =>
                obtain ⟨rfl, hv15, hb1⟩ := hcut
                replace hr0 := hr0.later hb1
                replace hb0 := hb0.trans (hb1.mono hb0.size)
                clear hb1 hri hF0
                go_upto_region 13 with fail
                go_cut [75] from 20 (fun v wx => v = .bool false ∧ wx = wc)
                case first =>
                  rcases hv11 with ⟨hf, rfl⟩ | ⟨hf, p, rfl⟩
                  · have cm := matches_ev a n c L wc hl hr0 hg hn false ⟨fun h => (by cases h), fun h => absurd hf h⟩
                    generalize tot (sumL L) = t0 at *
                    go_wp2_with (go_at_call 9; refine cm.mono ?_; rintro e wK ⟨rfl, rfl⟩)
                    go_meet
                    case rel => exact ⟨rfl, rfl⟩
                  · have cm := matches_ev a n c L wc hl hr0 hg hn true ⟨fun _ => hf, fun _ => rfl⟩
                    generalize tot (sumL L) = t0 at *
                    go_wp2_with (go_at_call 9; refine cm.mono ?_; rintro e wK ⟨rfl, rfl⟩)
                    go_meet
                    case rel => exact ⟨rfl, rfl⟩
                case rest =>
                  obtain ⟨rfl, rfl⟩ := hcut
                  go_upto_region 15 with fail
                  go_cut [83] from 20 (fun v wx => v = .bool false ∧ Below wc.heap.size wc wx)
                  case first =>
                    have hi1 : (0 : Int) ≤ (k : Int) := by omega
                    have hi2 : (k : Int) ≤ (n : Int) := by omega
                    have hi3 : (k : Int) ≤ (c : Int) := by omega
                    have cm : ∀ (f : Bool), (f = true ↔ ¬ fits (sumL (L.take k))) → ∀ nq, Calls Tryf.prog 9 #[.int .i64 (tot (sumL (L.take k))), .bool f, .slice a k c] (wc.drewN nq) fun e w' => e = .returned (.bool true) ∧ w' = wc.drewN nq := fun f hf nq =>
                      matches_ev a k c (L.take k) (wc.drewN nq) (by simp; omega) ((rowL_take k hr0).later (below_drewN (Below.refl _ _) nq)) (hg.take k) (by omega) f hf
                    rcases hv13 with ⟨hf, rfl⟩ | ⟨hf, p, rfl⟩
                    · have cm' := cm false ⟨fun h => (by cases h), fun h => absurd hf h⟩
                      clear cm
                      generalize tot (sumL (L.take k)) = t1 at *
                      cases a with
                      | none =>
                        obtain rfl : n = 0 := ha rfl
                        obtain rfl : k = 0 := by omega
                        go_quiet (first | (go_at_call 9; refine Calls.quiet_of_same (cm' _)))
                        go_wp2
                        go_meet
                        case rel => exact ⟨rfl, below_drewN (Below.refl _ _) _⟩
                      | some ad =>
                        go_quiet (first | (go_at_call 9; refine Calls.quiet_of_same (cm' _)))
                        go_wp2
                        go_meet
                        case rel => exact ⟨rfl, below_drewN (Below.refl _ _) _⟩
                    · have cm' := cm true ⟨fun _ => hf, fun _ => rfl⟩
                      clear cm
                      generalize tot (sumL (L.take k)) = t1 at *
                      cases a with
                      | none =>
                        obtain rfl : n = 0 := ha rfl
                        obtain rfl : k = 0 := by omega
                        go_quiet (first | (go_at_call 9; refine Calls.quiet_of_same (cm' _)))
                        go_wp2
                        go_meet
                        case rel => exact ⟨rfl, below_drewN (Below.refl _ _) _⟩
                      | some ad =>
                        go_quiet (first | (go_at_call 9; refine Calls.quiet_of_same (cm' _)))
                        go_wp2
                        go_meet
                        case rel => exact ⟨rfl, below_drewN (Below.refl _ _) _⟩
                  case rest =>
                    obtain ⟨rfl, hb1⟩ := hcut
                    replace hr0 := hr0.later hb1
                    replace hb0 := hb0.trans (hb1.mono hb0.size)
                    clear hb1
                    go_upto_region 17 with fail
                    go_cut [91] from 20 (fun v wx => v = .bool false ∧ Below wc.heap.size wc wx)
                    case first =>
                      have hi1 : (0 : Int) ≤ (k : Int) := by omega
                      have hi2 : (k : Int) ≤ (n : Int) := by omega
                      have cm0 : ∀ (a' : Option Addr) (m c' : Nat), m = n - k → RowL wc a' (L.drop k) → ∀ (f : Bool), (f = true ↔ ¬ fits (sumL (L.drop k))) → ∀ nq, Calls Tryf.prog 9 #[.int .i64 (tot (sumL (L.drop k))), .bool f, .slice a' m c'] (wc.drewN nq) fun e w' => e = .returned (.bool true) ∧ w' = wc.drewN nq := fun a' m c' hm' hr' f hf nq =>
                        matches_ev a' m c' (L.drop k) (wc.drewN nq) (by simp; omega) (hr'.later (below_drewN (Below.refl _ _) nq)) (hg.drop k) (by omega) f hf
                      cases a with
                      | none =>
                        obtain rfl : n = 0 := ha rfl
                        obtain rfl : k = 0 := by omega
                        have cm := cm0 none 0 c rfl hr0
                        clear cm0
                        generalize L.drop 0 = LD at *
                        rcases hv15 with ⟨hf, rfl⟩ | ⟨hf, p, rfl⟩
                        · have cm' := cm false ⟨fun h => (by cases h), fun h => absurd hf h⟩
                          clear cm
                          generalize tot (sumL LD) = t1 at *
                          go_quiet (first | (go_at_call 9; refine Calls.quiet_of_same (cm' _)))
                          go_wp2
                          go_meet
                          case rel => exact ⟨rfl, below_drewN (Below.refl _ _) _⟩
                        · have cm' := cm true ⟨fun _ => hf, fun _ => rfl⟩
                          clear cm
                          generalize tot (sumL LD) = t1 at *
                          go_quiet (first | (go_at_call 9; refine Calls.quiet_of_same (cm' _)))
                          go_wp2
                          go_meet
                          case rel => exact ⟨rfl, below_drewN (Below.refl _ _) _⟩
                      | some ad =>
                        by_cases hck : c = k
                        · obtain rfl : k = n := by omega
                          subst hck
                          have cm := cm0 (some ad) 0 0 (by omega) (.inl (List.drop_eq_nil_of_le (by omega)))
                          clear cm0
                          generalize L.drop c = LD at *
                          rcases hv15 with ⟨hf, rfl⟩ | ⟨hf, p, rfl⟩
                          · have cm' := cm false ⟨fun h => (by cases h), fun h => absurd hf h⟩
                            clear cm
                            generalize tot (sumL LD) = t1 at *
                            go_quiet (first | (go_at_call 9; refine Calls.quiet_of_same (cm' _)))
                            go_wp2
                            go_meet
                            case rel => exact ⟨rfl, below_drewN (Below.refl _ _) _⟩
                          · have cm' := cm true ⟨fun _ => hf, fun _ => rfl⟩
                            clear cm
                            generalize tot (sumL LD) = t1 at *
                            go_quiet (first | (go_at_call 9; refine Calls.quiet_of_same (cm' _)))
                            go_wp2
                            go_meet
                            case rel => exact ⟨rfl, below_drewN (Below.refl _ _) _⟩
                        · have cm := cm0 (some (ad.add (k * 4))) (n - k) (c - k) rfl (rowL_drop k hr0)
                          clear cm0
                          generalize L.drop k = LD at *
                          rcases hv15 with ⟨hf, rfl⟩ | ⟨hf, p, rfl⟩
                          · have cm' := cm false ⟨fun h => (by cases h), fun h => absurd hf h⟩
                            clear cm
                            generalize tot (sumL LD) = t1 at *
                            go_quiet (first | (go_at_call 9; refine Calls.quiet_of_same (cm' _)))
                            go_wp2
                            go_meet
                            case rel => exact ⟨rfl, below_drewN (Below.refl _ _) _⟩
                          · have cm' := cm true ⟨fun _ => hf, fun _ => rfl⟩
                            clear cm
                            generalize tot (sumL LD) = t1 at *
                            go_quiet (first | (go_at_call 9; refine Calls.quiet_of_same (cm' _)))
                            go_wp2
                            go_meet
                            case rel => exact ⟨rfl, below_drewN (Below.refl _ _) _⟩
                    case rest =>
                      obtain ⟨rfl, hb1⟩ := hcut
                      replace hb0 := hb0.trans (hb1.mono hb0.size)
                      clear hb1 hr0
                      have hsplit : sumL L = sumL (L.take k) + sumL (L.drop k) := by
                        conv => lhs; rw [← List.take_append_drop k L]
                        rw [sumL_append]
                      generalize sumL (L.take k) = S1 at *
                      generalize sumL (L.drop k) = S2 at *
                      generalize sumL L = S at *
                      rcases hv13 with ⟨hf1, rfl⟩ | ⟨hf1, p1, rfl⟩
                      · rcases hv15 with ⟨hf2, rfl⟩ | ⟨hf2, p2, rfl⟩
                        · rw [tot_fits hf1, tot_fits hf2]
                          rcases hv11 with ⟨hf, rfl⟩ | ⟨hf, p, rfl⟩
                          · rw [tot_fits hf]
                            unfold fits at hf hf1 hf2
                            have hw : wrap64 (S1 + S2) = S := by simp only [wrap64]; omega
                            go_wp2
                            all_goals first
                              | (go_ret; exact ⟨rfl, hb0⟩)
                              | (exfalso; omega)
                          · rw [tot_not hf]
                            unfold fits at hf hf1 hf2
                            obtain ⟨q, hq⟩ : ∃ q, wrap64 (S1 + S2) = q := ⟨_, rfl⟩
                            have hq2 : (0 < S1 ∧ 0 < S2 ∧ q < 0) ∨ (S1 < 0 ∧ S2 < 0 ∧ 0 ≤ q) := by
                              simp only [wrap64] at hq; omega
                            clear hf hsplit
                            rcases hq2 with ⟨g1, g2, g3⟩ | ⟨g1, g2, g3⟩
                            · go_wp2
                              all_goals first
                                | (go_ret; exact ⟨rfl, hb0⟩)
                                | (exfalso; omega)
                            · go_wp2
                              all_goals first
                                | (go_ret; exact ⟨rfl, hb0⟩)
                                | (exfalso; omega)
                        · generalize tot S1 = T1 at *
                          generalize tot S2 = T2 at *
                          generalize tot S = T at *
                          clear hf1 hf2 hsplit
                          go_wp2
                          go_ret
                          exact ⟨rfl, hb0⟩
                      · generalize tot S1 = T1 at *
                        generalize tot S2 = T2 at *
                        generalize tot S = T at *
                        clear hf1 hsplit
                        go_wp2
                        go_ret
                        exact ⟨rfl, hb0⟩
end Go.Proofs.Qxb6627403aFmt
