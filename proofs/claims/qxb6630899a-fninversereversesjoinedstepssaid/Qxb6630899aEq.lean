/-
  The walk of stepEq (12). Seat b6630899a.
-/
import Derived.Test.Qxb6630899aSize
namespace Go.Proofs.Qxb6630899a
open Go.RowKit
set_option linter.unusedVariables false
attribute [local go_sem ↓] Go.wp_at_zero Go.wp_at_succ

set_option maxRecDepth 100000 in
set_option maxHeartbeats 1000000 in
theorem stepEq_any (s : St) (w : World) (h1 : PathOk w s.2.1) (h2 : PathOk w s.2.2) (l1 : s.2.1.2.1 ≤ 1048576) (l2 : s.2.2.2.1 ≤ 1048576) :
    Calls Try.prog 12 #[stv s, stv s] w fun e w' => e = .returned (.bool true) ∧ Below w.heap.size w w' := by
  obtain ⟨op, ⟨fa, fn, fc⟩, ⟨ta, tn, tc⟩⟩ := s
  simp only [stv] at h1 h2 l1 l2 ⊢
  have k1 : ∀ w', Below w.heap.size w w' → Calls Try.prog 14 #[.slice fa fn fc, .slice fa fn fc] w' fun e w'' => e = .returned (.bool true) ∧ Below w'.heap.size w' w'' := fun w' hb =>
    (pathEqP_any (fa, fn, fc) w' (h1.later hb) l1).mono (fun e w'' ⟨h, nq, h'⟩ => ⟨h, h' ▸ below_drewN (Below.refl _ _) nq⟩)
  have k2 : ∀ w', Below w.heap.size w w' → Calls Try.prog 14 #[.slice ta tn tc, .slice ta tn tc] w' fun e w'' => e = .returned (.bool true) ∧ Below w'.heap.size w' w'' := fun w' hb =>
    (pathEqP_any (ta, tn, tc) w' (h2.later hb) l2).mono (fun e w'' ⟨h, nq, h'⟩ => ⟨h, h' ▸ below_drewN (Below.refl _ _) nq⟩)
  clear h1 h2
  go_enter Try.func12, Try.ntmps12
  go_upto_region 0 with fail
  go_cut [2, 3, 4] from 5 (fun v u z wx => ∃ x y, v = .pointer (some ⟨x, 0, none⟩) ∧ u = .pointer (some ⟨y, 0, none⟩) ∧ z = .bool false ∧ (∀ q, wx.cell? ⟨x, q, none⟩ = (#[.string op, .slice fa fn fc, .slice ta tn tc] : Array Value)[q]?) ∧ (∀ q, wx.cell? ⟨y, q, none⟩ = (#[.string op, .slice fa fn fc, .slice ta tn tc] : Array Value)[q]?) ∧ Below w.heap.size w wx)
  case first =>
    go_wp2
    go_meet
    case rel =>
      refine ⟨w.heap.size, w.heap.size + 1, rfl, rfl, rfl, fun q => ?_, fun q => ?_, ((Below.refl _ _).alloc (Nat.le_refl _) _).alloc (by simp) _⟩
      · exact (World.cell?_of_block (w := w.alloc _) (Below.heap_alloc (w.alloc _) _ _ (by simp))).trans (World.cell?_alloc_at _ _ _ _ rfl)
      · exact World.cell?_alloc_at _ _ _ _ (by simp)
  case rest =>
    obtain ⟨x, y, rfl, rfl, rfl, hx, hy, hb⟩ := hcut
    have x0 : wc.cell? ⟨x, 0, none⟩ = some (.string op) := hx 0
    have x1 : wc.cell? ⟨x, 1, none⟩ = some (.slice fa fn fc) := hx 1
    have x2 : wc.cell? ⟨x, 2, none⟩ = some (.slice ta tn tc) := hx 2
    have y0 : wc.cell? ⟨y, 0, none⟩ = some (.string op) := hy 0
    have y1 : wc.cell? ⟨y, 1, none⟩ = some (.slice fa fn fc) := hy 1
    have y2 : wc.cell? ⟨y, 2, none⟩ = some (.slice ta tn tc) := hy 2
    clear hx hy
    have c1 := k1 wc hb
    have c2 : ∀ w', Below wc.heap.size wc w' → Calls Try.prog 14 #[.slice ta tn tc, .slice ta tn tc] w' fun e w'' => e = .returned (.bool true) ∧ Below w'.heap.size w' w'' := fun w' hb' => k2 w' (hb.trans (hb'.mono hb.size))
    go_wp2_with (first
      | (go_at_call 14; refine (c2 _ hbK).mono ?_; rintro e wK2 ⟨rfl, hbK2⟩)
      | (go_at_call 14; refine c1.mono ?_; rintro e wK ⟨rfl, hbK⟩; have z1 := cell_kept hbK x2; have z2 := cell_kept hbK y2))
    go_ret
    exact ⟨rfl, (hb.trans (hbK.mono hb.size)).trans (hbK2.mono (Nat.le_trans hb.size hbK.size))⟩
end Go.Proofs.Qxb6630899a
