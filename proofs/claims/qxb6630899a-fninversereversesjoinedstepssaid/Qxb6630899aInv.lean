/-
  The walk of Inverse (8). Seat b6630899a.
-/
import Derived.Test.Qxb6630899aSteps
import Derived.Deep.AppendLies
namespace Go.Proofs.Qxb6630899a
open Go.RowKit
set_option linter.unusedVariables false
attribute [local go_sem ↓] Go.wp_at_zero Go.wp_at_succ

/-- The cells of a row of steps. -/
def flat : List St → List Value
  | [] => []
  | s :: r => cellOf s 0 :: cellOf s 1 :: cellOf s 2 :: flat r

theorem flat_append : ∀ A B, flat (A ++ B) = flat A ++ flat B
  | [], _ => rfl
  | s :: r, B => by simp [flat, flat_append r B]

theorem flat_get : ∀ (M : List St) (i j : Nat), i < M.length → j < 3 → (flat M)[i * 3 + j]? = some (cellOf (M.getD i dSt) j)
  | s :: r, 0, j, _, hj => by
    match j, hj with
    | 0, _ => rfl
    | 1, _ => rfl
    | 2, _ => rfl
  | s :: r, i + 1, j, hi, hj => by
    have e : (i + 1) * 3 + j = i * 3 + j + 1 + 1 + 1 := by omega
    rw [e]
    simp only [flat, List.getElem?_cons_succ]
    rw [flat_get r i j (by simpa using hi) hj]
    simp

/-- The inverses of the steps from q on, the last first. -/
def invL (L : List St) (q : Nat) : List St := ((L.drop q).reverse).filterMap invS

theorem invL_step (L : List St) (q : Nat) (hq : q < L.length) : invL L q = invL L (q + 1) ++ (invS (L.getD q dSt)).toList := by
  unfold invL
  rw [List.drop_eq_getElem_cons hq, List.reverse_cons, List.filterMap_append]
  have e : L.getD q dSt = L[q] := by simp [List.getD, List.getElem?_eq_getElem hq]
  rw [e]
  cases h : invS L[q] <;> simp [h]

/-- The inverse that is being built. -/
structure IInv (wc wr : World) (ib : Nat) (c1 c2 c3 c4 : ByteArray) (M : List St) (v : Value) : Prop where
  below : Below ib wc wr
  ent : wr.heap[ib]? = some (.cells (entCells c1 c2 c4 c3 v) 26 (0, 0))
  own : wr.ownsRow (ib + 1) 36 3 v M.length (flat M)

section
variable {wc wr wK : World} {ib : Nat} {c1 c2 c3 c4 : ByteArray} {M : List St} {v : Value}

theorem IInv.lt (H : IInv wc wr ib c1 c2 c3 c4 M v) : ib < wr.heap.size := (Array.getElem?_eq_some_iff.1 H.ent).1

theorem owns_later {B : Nat} {n : Nat} {xs : List Value} (H : wr.ownsRow B 36 3 v n xs) (hb : Below wr.heap.size wr wK) : wK.ownsRow B 36 3 v n xs := by
  obtain ⟨h1, h | ⟨g, cap, cur, e, h2, h3, h4⟩⟩ := H
  · exact ⟨h1, .inl h⟩
  · exact ⟨h1, .inr ⟨g, cap, cur, e, h2, (hb.block g (Array.getElem?_eq_some_iff.1 h3).1).trans h3, h4⟩⟩

theorem IInv.later (H : IInv wc wr ib c1 c2 c3 c4 M v) (hb : Below wr.heap.size wr wK) : IInv wc wK ib c1 c2 c3 c4 M v :=
  ⟨H.below.trans (hb.mono (Nat.le_of_lt H.lt)), (hb.block ib H.lt).trans H.ent, owns_later H.own hb⟩

theorem IInv.ne (H : IInv wc wr ib c1 c2 c3 c4 M v) : some ib ≠ v.ownBlock := fun e => by
  have := (H.own.lt ib e.symm).1
  omega

theorem IInv.grow {w1 : World} (H : IInv wc wr ib c1 c2 c3 c4 M v) (hg : wr.grownBy w1 v.ownBlock) : w1.heap[ib]? = some (.cells (entCells c1 c2 c4 c3 v) 26 (0, 0)) :=
  (hg.block ib H.lt H.ne).trans H.ent

theorem IInv.push {w1 : World} {v' : Value} {t : St} (H : IInv wc wr ib c1 c2 c3 c4 M v) (hg : wr.grownBy w1 v.ownBlock) (ho : w1.ownsRow (ib + 1) 36 3 v' (M.length + 1) (flat M ++ [cellOf t 0, cellOf t 1, cellOf t 2])) :
    IInv wc (w1.setCell ⟨ib, 4, none⟩ v') ib c1 c2 c3 c4 (M ++ [t]) v' := by
  refine ⟨(H.below.grown hg (Nat.le_of_lt H.lt) (fun k hk => by have := (H.own.lt k hk).1; omega)).setCell (Nat.le_refl _) _, ?_, ?_⟩
  · have := heap_setCell_same _ _ 4 _ _ v' (H.grow hg)
    simpa [entCells] using this
  · have e : flat (M ++ [t]) = flat M ++ [cellOf t 0, cellOf t 1, cellOf t 2] := by rw [flat_append]; rfl
    rw [e, List.length_append]
    exact ownsRow_setCell_below ho (by exact Nat.lt_succ_self _) _

theorem IInv.at4 (H : IInv wc wr ib c1 c2 c3 c4 M v) : wr.cell? ⟨ib, 4, none⟩ = some v := by simp [World.cell?, H.ent, entCells]

theorem IInv.rowL (H : IInv wc wr ib c1 c2 c3 c4 M v) : ∃ a' c', v = .slice a' M.length c' ∧ RowL wr a' M := by
  obtain ⟨h1, ⟨rfl, h⟩ | ⟨g, cap, cur, rfl, h2, h3, h4, h5, h6, h7⟩⟩ := H.own
  · exact ⟨none, 0, by rw [h], .inl (List.eq_nil_of_length_eq_zero h)⟩
  · refine ⟨_, cap, rfl, .inr ⟨g, 0, rfl, (Array.getElem?_eq_some_iff.1 h3).1, fun i j hi hj => ?_⟩⟩
    have := flat_get M i j hi hj
    rw [← h7, List.getElem?_take] at this
    rw [if_pos (by omega)] at this
    simpa [World.cell?, h3] using this
end

set_option maxRecDepth 100000 in
set_option maxHeartbeats 1000000 in
theorem inv_any (c1 c2 c3 c4 : ByteArray) (a : Option Addr) (n c : Nat) (L : List St) (w : World) (hl : L.length = n) (hr : RowL w a L) (hn : n ≤ 1048576) :
    Calls Try.prog 8 #[.agg #[.string c1, .string c2, .string c3, .string c4, .slice a n c]] w fun e w' =>
      ∃ a' c', e = .returned (.agg (entCells c1 c2 c4 c3 (.slice a' (invL L 0).length c'))) ∧ RowL w' a' (invL L 0) ∧ Below w.heap.size w w' := by
  obtain ⟨i0, hi0, hi1, hi2, hi3⟩ := info_parts Try.info36
  go_enter Try.func8, Try.ntmps8
  go_upto_region 2 with fail
  go_cut [1, 2, 3, 4] from 7 (fun v u x y wx => ∃ bx rb ib, v = .pointer (some ⟨bx, 0, none⟩) ∧ u = .pointer (some ⟨rb, 0, none⟩) ∧ x = .pointer (some ⟨ib, 0, none⟩) ∧ y = .int .i64 ((n : Int) - 1) ∧
      wx.heap[bx]? = some (.cells (entCells c1 c2 c3 c4 (.slice a n c)) 26 (0, 0)) ∧
      wx.heap[rb]? = some (.cells (entCells ⟨#[]⟩ ⟨#[]⟩ ⟨#[]⟩ ⟨#[]⟩ (.slice none 0 0)) 26 (0, 0)) ∧
      wx.heap[ib]? = some (.cells (entCells c1 c2 c4 c3 (.slice none 0 0)) 26 (0, 0)) ∧ w.heap.size ≤ bx ∧ bx < rb ∧ rb < ib ∧ Below w.heap.size w wx)
  case first =>
    go_wp2
    go_meet
    case rel =>
      refine ⟨w.heap.size, w.heap.size + 1, w.heap.size + 1 + 1, rfl, rfl, rfl, rfl, ?_, ?_, ?_, Nat.le_refl _, by omega, by omega, (((Below.refl _ _).alloc (Nat.le_refl _) _).alloc (by simp) _).alloc (by simp; omega) _⟩
      · exact (Below.heap_alloc ((w.alloc _).alloc _) _ _ (by simp; omega)).trans ((Below.heap_alloc (w.alloc _) _ _ (by simp)).trans (heap_alloc_new w _))
      · exact (Below.heap_alloc ((w.alloc _).alloc _) _ _ (by simp)).trans (by simpa [entCells] using heap_alloc_new (w.alloc _) _)
      · simpa [entCells] using heap_alloc_new ((w.alloc _).alloc _) _
  case rest =>
    obtain ⟨bx, rb, ib, rfl, rfl, rfl, rfl, hbx, hrb, hib, hwb, hbr, hri, hbel⟩ := hcut
    have HI : IInv wc wc ib c1 c2 c3 c4 (invL L n) (.slice none 0 0) := by
      have e : invL L n = [] := by unfold invL; rw [List.drop_eq_nil_of_le (by omega)]; rfl
      rw [e]
      exact ⟨Below.refl _ _, hib, World.ownsRow_nil _ _ _ _⟩
    have hbl : bx < wc.heap.size := (Array.getElem?_eq_some_iff.1 hbx).1
    have hrl : rb < wc.heap.size := (Array.getElem?_eq_some_iff.1 hrb).1
    have hr' : L = [] ∨ ∃ b o, a = some ⟨b, o, none⟩ ∧ b < bx ∧ ∀ i j, i < L.length → j < 3 → wc.cell? ⟨b, o + i * 3 + j, none⟩ = some (cellOf (L.getD i dSt) j) := by
      rcases hr with h | ⟨b, o, e, hlt, hc⟩
      · exact .inl h
      · exact .inr ⟨b, o, e, Nat.lt_of_lt_of_le hlt hwb, fun i j hi hj => (hbel.cell (p := ⟨b, o + i * 3 + j, none⟩) hlt).trans (hc i j hi hj)⟩
    clear hr
    go_wp2
    go_loopw [4] (fun i wr => ∃ (q : Nat) (v : Value), i = .int .i64 ((q : Int) - 1) ∧ q ≤ n ∧ IInv wc wr ib c1 c2 c3 c4 (invL L q) v) (fun i _ => (intOf i + 1).toNat)
    case atStart => exact ⟨n, _, rfl, Nat.le_refl _, HI⟩
    case round =>
      clear HI
      obtain ⟨q, v, rfl, hq, HI⟩ := hrel
      have x1 : ∀ q, wr.cell? ⟨bx, q, none⟩ = (entCells c1 c2 c3 c4 (.slice a n c))[q]? := fun q => by simp [World.cell?, (HI.below.block bx (by omega)).trans hbx]
      cases q with
      | succ k =>
        have ek : (((k + 1 : Nat) : Int) - 1) = k := by omega
        rw [ek]
        clear ek
        rcases hr' with hr' | ⟨b, o, e, hbb, hc⟩
        · subst hr'; simp at hl; omega
        subst e
        have hcx : ∀ q, wr.cell? ⟨b, q, none⟩ = wc.cell? ⟨b, q, none⟩ := fun q => HI.below.cell (p := ⟨b, q, none⟩) (by show b < ib; omega)
        have q0 := (hcx _).trans (hc k 0 (by omega) (by omega))
        have q1 := (hcx _).trans (hc k 1 (by omega) (by omega))
        have q2 := (hcx _).trans (hc k 2 (by omega) (by omega))
        have hst := invL_step L k (by omega)
        generalize hs : L.getD k dSt = s at q0 q1 q2 hst
        obtain ⟨op, ⟨fa, fn, fc⟩, ⟨ta, tn, tc⟩⟩ := s
        simp only [cellOf, Nat.add_zero] at q0 q1 q2
        have q3 : wr.cell? ⟨bx, 4, none⟩ = some (.slice (some ⟨b, o, none⟩) n c) := x1 4
        have hi1' : (0 : Int) ≤ (k : Int) := by omega
        have hi2' : (k : Int) < (n : Int) := by omega
        have Hs : Hid (L.getD k dSt = (op, (fa, fn, fc), (ta, tn, tc))) := hs
        have cinv := inverse_any op fa ta fn fc tn tc
        clear hcx hc hs x1
        cases hq : invS (op, (fa, fn, fc), (ta, tn, tc)) with
        | none =>
          simp only [hq, Option.getD, Option.isSome, stv, dSt, Option.toList, List.append_nil] at cinv hst
          have Hst : Hid (invL L k = invL L (k + 1)) := hst
          have Hq : Hid (invS (op, (fa, fn, fc), (ta, tn, tc)) = none) := hq
          clear hst hq
          go_wp2_with (go_at_call 13; refine (cinv _).mono ?_; rintro e wK ⟨rfl, hbK⟩)
          go_roundw
          case rel => exact ⟨k, v, rfl, by omega, by rw [(show _ = _ from Hst)]; exact (HI.later hbK).later ((Below.refl _ _).alloc (Nat.le_refl _) _)⟩
          case measure => simp [intOf]
        | some t =>
          obtain ⟨top, ⟨pa, pn, pc⟩, ⟨ra, rn, rc⟩⟩ := t
          simp only [hq, Option.getD, Option.isSome, stv, Option.toList] at cinv hst
          have Hst : Hid (invL L k = invL L (k + 1) ++ [(top, (pa, pn, pc), (ra, rn, rc))]) := hst
          have Hq : Hid (invS (op, (fa, fn, fc), (ta, tn, tc)) = some (top, (pa, pn, pc), (ra, rn, rc))) := hq
          clear hst hq
          have hml : (invL L (k + 1)).length ≤ n := by
            unfold invL
            refine Nat.le_trans (List.length_filterMap_le _ _) ?_
            simp; omega
          go_wp2_with (first
            | (go_at_call 13; refine (cinv _).mono ?_; rintro e wK ⟨rfl, hbK⟩; have HK := HI.later hbK; have g1 := HK.at4; have g2 := HK.lt; have g3 : ib ≠ wK.heap.size := Nat.ne_of_lt HK.lt)
            | (at_builtin; refine wpList_append_lies _ rfl (.tmp 35) (.tmp 37) 24 rfl (ib + 1) 36 i0 _ 3 64 Try.underlying24 hi0 hi1 hi2 hi3 rfl (by decide) v _ (flat (invL L (k + 1))) rfl
                ((HK.own.alloc _).alloc _) ⟨wK.heap.size + 1, 0, none⟩ 1 1 [.string top, .slice pa pn pc, .slice ra rn rc] rfl rfl (World.news_of_block (cs := #[.string top, .slice pa pn pc, .slice ra rn rc]) (by simpa using heap_alloc_new (wK.alloc _) _)) (by simp [Value.oneCell']) (by decide) (by unfold maxLen; omega) (by omega) (by simp; omega) _ rfl ?_
               intro g cap w1 hown hgrow hat hlt
               have HA := (HK.later ((Below.refl _ _).alloc (Nat.le_refl _) (.cells #[.string top, .slice pa pn pc, .slice ra rn rc] 36))).later ((Below.refl _ _).alloc (Nat.le_refl _) (.cells #[.string top, .slice pa pn pc, .slice ra rn rc] 36))
               have hP := HA.push (t := (top, (pa, pn, pc), (ra, rn, rc))) hgrow hown
               have h4 : w1.cell? ⟨ib, 4, none⟩ = some v := by simp [World.cell?, HA.grow hgrow, entCells]
               have h5 : w1.frozen? ⟨ib, 4, none⟩ = false := by simp [World.frozen?, HA.grow hgrow]))
          go_roundw
          case rel => exact ⟨k, _, rfl, by omega, by rw [(show _ = _ from Hst)]; exact hP⟩
          case measure => simp [intOf]
      | zero =>
        have e0 : (((0 : Nat) : Int) - 1) = -1 := by omega
        rw [e0]
        clear e0
        obtain ⟨a', c', rfl, hrow⟩ := HI.rowL
        have g1 : ∀ q, wr.cell? ⟨ib, q, none⟩ = (entCells c1 c2 c4 c3 (.slice a' (invL L 0).length c'))[q]? := fun q => by simp [World.cell?, HI.ent]
        have g3 : ∀ q, wr.cell? ⟨rb, q, none⟩ = (entCells ⟨#[]⟩ ⟨#[]⟩ ⟨#[]⟩ ⟨#[]⟩ (.slice none 0 0))[q]? := fun q => by simp [World.cell?, (HI.below.block rb (by omega)).trans hrb]
        have g4 : ∀ q, wr.frozen? ⟨rb, q, none⟩ = false := fun q => by simp [World.frozen?, (HI.below.block rb (by omega)).trans hrb]
        have ne1 : rb ≠ ib := by omega
        have hlo : a' = none ∨ ∃ g, a' = some ⟨g, 0, none⟩ ∧ ib < g := by
          rcases HI.own.2 with ⟨e, _⟩ | ⟨g, cap, cur, e, h2, _⟩
          · simp at e; exact .inl e.1
          · simp at e; exact .inr ⟨g, e.1, h2⟩
        simp only [entCells] at g1 g3
        clear x1
        go_wp2
        refine bodyPost_ret (v := .agg (entCells c1 c2 c4 c3 (.slice a' (invL L 0).length c'))) (by simp [results, Try.results8, go_sem, entCells, g3]) rfl ⟨a', c', rfl, ?_, ?_⟩
        · rcases hlo with rfl | ⟨g, rfl, hg⟩
          · rcases hrow with h | ⟨b, o, e, _⟩
            · exact .inl h
            · cases e
          · have n2 : rb ≠ g := by omega
            exact ((((hrow.set (by exact n2) _).set (by exact n2) _).set (by exact n2) _).set (by exact n2) _).set (by exact n2) _
        · have h1 : w.heap.size ≤ rb := by omega
          have h0 : Below w.heap.size w wr := hbel.trans (HI.below.mono (by omega))
          exact ((((h0.setCell (by exact h1) _).setCell (by exact h1) _).setCell (by exact h1) _).setCell (by exact h1) _).setCell (by exact h1) _
end Go.Proofs.Qxb6630899a
