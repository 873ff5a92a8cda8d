/-
  A game in memory, its look-ups; equality of edges and cells. Seat b6630866a.
-/
import Derived.Test.Qxb6630866aPlain
namespace Go.Proofs.Qxb6630866a
open Go.RowKit Go.Maps
set_option linter.unusedVariables false

/-- A game in memory. -/
structure Gm (wr : World) (m gb bw bm bc : Nat) (s0x s0y s1x s1y : Int) (n2 n3 n4 : Nat) (Dw Dm Dc : DataW Unit) : Prop where
  blk : wr.heap[gb]? = some (.cells (gameCells m bw bm bc s0x s0y s1x s1y) 72 (0, 0))
  walls : wr.ownsMap Try.prog 37 (plainElem (H := Unit) Try.prog 4) bw n2 Dw
  mud : wr.ownsMap Try.prog 37 (plainElem (H := Unit) Try.prog 3) bm n3 Dm
  cheese : wr.ownsMap Try.prog 35 (plainElem (H := Unit) Try.prog 4) bc n4 Dc

section
variable {wr wK : World} {m gb bw bm bc : Nat} {s0x s0y s1x s1y : Int} {n2 n3 n4 : Nat} {Dw Dm Dc : DataW Unit}

theorem Gm.later (H : Gm wr m gb bw bm bc s0x s0y s1x s1y n2 n3 n4 Dw Dm Dc) (hb : Below wr.heap.size wr wK) : Gm wK m gb bw bm bc s0x s0y s1x s1y n2 n3 n4 Dw Dm Dc :=
  ⟨(hb.block gb (Array.getElem?_eq_some_iff.1 H.blk).1).trans H.blk, ownsMap_block H.walls (hb.block _ H.walls.lt), ownsMap_block H.mud (hb.block _ H.mud.lt), ownsMap_block H.cheese (hb.block _ H.cheese.lt)⟩

theorem Gm.lt (H : Gm wr m gb bw bm bc s0x s0y s1x s1y n2 n3 n4 Dw Dm Dc) : gb < wr.heap.size := (Array.getElem?_eq_some_iff.1 H.blk).1
theorem Gm.cell (H : Gm wr m gb bw bm bc s0x s0y s1x s1y n2 n3 n4 Dw Dm Dc) (q : Nat) : wr.cell? ⟨gb, q, none⟩ = (gameCells m bw bm bc s0x s0y s1x s1y)[q]? := by
  simp [World.cell?, H.blk]
end

theorem plainElem_bool_inv {v : Value} {z : DataW Unit × List MemPlace} (h : plainElem Try.prog 4 v = some z) : ∃ x, v = .bool x ∧ z = (.lit (.bool x), []) := by
  unfold plainElem at h
  rw [Try.underlying4] at h
  cases v <;> simp at h
  exact ⟨_, rfl, h.symm⟩

theorem zero4 (w : World) : (zeroValue 4).run Try.prog w = .ok (.bool false) w := by kernel_rfl
theorem zero3 (w : World) : (zeroValue 3).run Try.prog w = .ok (.int .i64 0) w := by kernel_rfl

/-- Each element is true. -/
def AllTrue (D : DataW Unit) : Prop := ∀ k, D.atKey k (.lit (.bool false)) = .lit (.bool (Maps.has D k))

theorem allTrue_wD (f : Nat → Nat → Int) (n : Nat) : AllTrue (wD f n) := by
  intro k
  cases h : Maps.has (wD f n) k
  · exact atKey_of_not_has h _
  · exact at_wD k _ n h
theorem allTrue_cD (f : Nat → Nat → Int) (n : Nat) : AllTrue (cD f n) := by
  intro k
  cases h : Maps.has (cD f n) k
  · exact atKey_of_not_has h _
  · exact at_cD k _ n h

section
variable {w : World} {b n : Nat} {D : DataW Unit}

theorem look31 (H : w.ownsMap Try.prog 37 (plainElem (H := Unit) Try.prog 4) b n D) (hD : AllTrue D) (e : Ed) (he : Ed.ok e) {x : Bool} (hx : Maps.has D (kl e) = x) (nq : Nat) :
    (Instr.lookup 31 (.map (some b)) (.agg #[.int .i64 e.1, .int .i64 e.2.1, .int .i64 e.2.2.1, .int .i64 e.2.2.2]) false).run Try.prog (w.drewN nq) = .ok (.bool x) (w.drewN nq) := by
  have H' : (w.drewN nq).ownsMap Try.prog 37 (plainElem (H := Unit) Try.prog 4) b n D := H
  obtain ⟨v, ps, hrun, hv⟩ := H'.lookup law37 Try.underlying31 (zero4 _) (plainElem_bool Try.underlying4 false) (keyOf_ev e he)
  rw [hD, hx] at hv
  obtain ⟨y, rfl, hy⟩ := plainElem_bool_inv hv
  simp at hy
  rw [hy.1]
  exact hrun
theorem look31ok (H : w.ownsMap Try.prog 37 (plainElem (H := Unit) Try.prog 4) b n D) (hD : AllTrue D) (e : Ed) (he : Ed.ok e) {x : Bool} (hx : Maps.has D (kl e) = x) (nq : Nat) :
    (Instr.lookup 31 (.map (some b)) (.agg #[.int .i64 e.1, .int .i64 e.2.1, .int .i64 e.2.2.1, .int .i64 e.2.2.2]) true).run Try.prog (w.drewN nq) = .ok (.tuple #[.bool x, .bool x]) (w.drewN nq) := by
  have H' : (w.drewN nq).ownsMap Try.prog 37 (plainElem (H := Unit) Try.prog 4) b n D := H
  obtain ⟨v, ps, hrun, hv⟩ := H'.look_ok law37 Try.underlying31 (zero4 _) (plainElem_bool Try.underlying4 false) (keyOf_ev e he)
  rw [hD, hx] at hv
  obtain ⟨y, rfl, hy⟩ := plainElem_bool_inv hv
  simp at hy
  rw [hx, ← hy.1] at hrun
  exact hrun
theorem look51 (H : w.ownsMap Try.prog 35 (plainElem (H := Unit) Try.prog 4) b n D) (hD : AllTrue D) (e : Ce) (he : Ce.ok e) {x : Bool} (hx : Maps.has D (kc e) = x) (nq : Nat) :
    (Instr.lookup 51 (.map (some b)) (.agg #[.int .i64 e.1, .int .i64 e.2]) false).run Try.prog (w.drewN nq) = .ok (.bool x) (w.drewN nq) := by
  have H' : (w.drewN nq).ownsMap Try.prog 35 (plainElem (H := Unit) Try.prog 4) b n D := H
  obtain ⟨v, ps, hrun, hv⟩ := H'.lookup law35 Try.underlying51 (zero4 _) (plainElem_bool Try.underlying4 false) (keyOf_cv e he)
  rw [hD, hx] at hv
  obtain ⟨y, rfl, hy⟩ := plainElem_bool_inv hv
  simp at hy
  rw [hy.1]
  exact hrun
theorem look51ok (H : w.ownsMap Try.prog 35 (plainElem (H := Unit) Try.prog 4) b n D) (hD : AllTrue D) (e : Ce) (he : Ce.ok e) {x : Bool} (hx : Maps.has D (kc e) = x) (nq : Nat) :
    (Instr.lookup 51 (.map (some b)) (.agg #[.int .i64 e.1, .int .i64 e.2]) true).run Try.prog (w.drewN nq) = .ok (.tuple #[.bool x, .bool x]) (w.drewN nq) := by
  have H' : (w.drewN nq).ownsMap Try.prog 35 (plainElem (H := Unit) Try.prog 4) b n D := H
  obtain ⟨v, ps, hrun, hv⟩ := H'.look_ok law35 Try.underlying51 (zero4 _) (plainElem_bool Try.underlying4 false) (keyOf_cv e he)
  rw [hD, hx] at hv
  obtain ⟨y, rfl, hy⟩ := plainElem_bool_inv hv
  simp at hy
  rw [hx, ← hy.1] at hrun
  exact hrun
/-- 'v, ok := mud[e]': v is the number that the datum tells. -/
theorem look43ok (H : w.ownsMap Try.prog 37 (plainElem (H := Unit) Try.prog 3) b n D) (e : Ed) (he : Ed.ok e) {x : Bool} (hx : Maps.has D (kl e) = x) :
    ∃ c, D.atKey (kl e) (.lit (.int .i64 0)) = .lit (.int .i64 c) ∧ ∀ nq,
    (Instr.lookup 43 (.map (some b)) (.agg #[.int .i64 e.1, .int .i64 e.2.1, .int .i64 e.2.2.1, .int .i64 e.2.2.2]) true).run Try.prog (w.drewN nq) = .ok (.tuple #[.int .i64 c, .bool x]) (w.drewN nq) := by
  have key : ∀ nq, ∃ c, D.atKey (kl e) (.lit (.int .i64 0)) = .lit (.int .i64 c) ∧ (Instr.lookup 43 (.map (some b)) (ev e) true).run Try.prog (w.drewN nq) = .ok (.tuple #[.int .i64 c, .bool x]) (w.drewN nq) := by
    intro nq
    have H' : (w.drewN nq).ownsMap Try.prog 37 (plainElem (H := Unit) Try.prog 3) b n D := H
    obtain ⟨v, ps, hrun, hv⟩ := H'.look_ok law37 Try.underlying43 (zero3 _) (plainElem_int Try.underlying3 (by decide)) (keyOf_ev e he)
    obtain ⟨c, rfl, hc, _⟩ := plainElem_int_inv Try.underlying3 hv
    simp at hc
    rw [hx] at hrun
    exact ⟨c, hc.1, hrun⟩
  obtain ⟨c, hc, _⟩ := key 0
  refine ⟨c, hc, fun nq => ?_⟩
  obtain ⟨c', hc', hr⟩ := key nq
  rw [hc] at hc'
  simp at hc'
  rw [hc']
  exact hr
end

/-- '==' and '!=' on edges and on cells. -/
theorem eqE (a b : Ed) (ha : Ed.ok a) (hb : Ed.ok b) (w : World) : (Op.equal 37 (ev a) (ev b)).run Try.prog w = .ok (decide (a = b)) w := by
  obtain ⟨r, hr, hi⟩ := run_equal_deep (P := Try.prog) w (m := 3) (by omega) Try.ktd37 Try.wide37 (keyOf_ev a ha) (keyOf_ev b hb)
  rw [hr]
  congr 1
  rw [Bool.eq_iff_iff, hi, decide_eq_true_iff]
  exact ⟨kl_inj ha hb, fun e => by rw [e]⟩
theorem eqC (a b : Ce) (ha : Ce.ok a) (hb : Ce.ok b) (w : World) : (Op.equal 35 (cv a) (cv b)).run Try.prog w = .ok (decide (a = b)) w := by
  obtain ⟨r, hr, hi⟩ := run_equal_deep (P := Try.prog) w (m := 2) (by omega) Try.ktd35 Try.wide35 (keyOf_cv a ha) (keyOf_cv b hb)
  rw [hr]
  congr 1
  rw [Bool.eq_iff_iff, hi, decide_eq_true_iff]
  exact ⟨kc_inj ha hb, fun e => by rw [e]⟩
theorem neqE (a b : Ed) (ha : Ed.ok a) (hb : Ed.ok b) (w : World) : (binOp .neq 37 (.agg #[.int .i64 a.1, .int .i64 a.2.1, .int .i64 a.2.2.1, .int .i64 a.2.2.2]) (.agg #[.int .i64 b.1, .int .i64 b.2.1, .int .i64 b.2.2.1, .int .i64 b.2.2.2])).run Try.prog w = .ok (.bool (!decide (a = b))) w := by
  have := eqE a b ha hb w
  unfold ev at this
  simp only [binOp]
  simp [this]
theorem eqlE (a b : Ed) (ha : Ed.ok a) (hb : Ed.ok b) (w : World) : (binOp .eql 37 (.agg #[.int .i64 a.1, .int .i64 a.2.1, .int .i64 a.2.2.1, .int .i64 a.2.2.2]) (.agg #[.int .i64 b.1, .int .i64 b.2.1, .int .i64 b.2.2.1, .int .i64 b.2.2.2])).run Try.prog w = .ok (.bool (decide (a = b))) w := by
  have := eqE a b ha hb w
  unfold ev at this
  simp only [binOp]
  simp [this]
theorem neqC (a b : Ce) (ha : Ce.ok a) (hb : Ce.ok b) (w : World) : (binOp .neq 35 (.agg #[.int .i64 a.1, .int .i64 a.2]) (.agg #[.int .i64 b.1, .int .i64 b.2])).run Try.prog w = .ok (.bool (!decide (a = b))) w := by
  have := eqC a b ha hb w
  unfold cv at this
  simp only [binOp]
  simp [this]
theorem eqlC (a b : Ce) (ha : Ce.ok a) (hb : Ce.ok b) (w : World) : (binOp .eql 35 (.agg #[.int .i64 a.1, .int .i64 a.2]) (.agg #[.int .i64 b.1, .int .i64 b.2])).run Try.prog w = .ok (.bool (decide (a = b))) w := by
  have := eqC a b ha hb w
  unfold cv at this
  simp only [binOp]
  simp [this]
end Go.Proofs.Qxb6630866a
