/-
  A copy of the items whose places change: what the writes keep. Seat b6627403aF.
-/
import Derived.Test.Qxb6627403aFmtItems
import Derived.Deep.WholeRow
namespace Go.Proofs.Qxb6627403aFmt
open Go.RowKit
set_option linter.unusedVariables false

theorem sumL_set : ∀ (M : List It) (i : Nat) (s : It), i < M.length → sumL (M.set i s) = sumL M - (M.getD i dIt).2.2.1 + s.2.2.1
  | [], i, s, h => absurd h (by simp)
  | m :: r, 0, s, h => by simp [sumL]; omega
  | m :: r, i + 1, s, h => by
    have := sumL_set r i s (by simpa using h)
    simp only [List.set_cons_succ, sumL, List.getD_cons_succ, this]; omega

theorem getD_set (M : List It) (i k : Nat) (s : It) (h : i < M.length) : (M.set i s).getD k dIt = if k = i then s else M.getD k dIt := by
  by_cases hk : k = i
  · subst hk
    simp [List.getD, List.getElem?_set_self h]
  · rw [if_neg hk]
    simp [List.getD, List.getElem?_set_ne (Ne.symm hk)]

/-- Two places exchanged. -/
def swp (M : List It) (i j : Nat) : List It := (M.set i (M.getD j dIt)).set j (M.getD i dIt)

theorem swp_length (M : List It) (i j : Nat) : (swp M i j).length = M.length := by simp [swp]

theorem swp_sum (M : List It) (i j : Nat) (hi : i < M.length) (hj : j < M.length) : sumL (swp M i j) = sumL M := by
  unfold swp
  rw [sumL_set _ _ _ (by simpa using hj), sumL_set _ _ _ hi, getD_set _ _ _ _ hi]
  split
  · rename_i h; subst h; omega
  · omega

theorem swp_rng (M : List It) (i j : Nat) (hi : i < M.length) (hj : j < M.length) (h : Rng M) : Rng (swp M i j) := by
  intro k hk
  rw [swp_length] at hk
  unfold swp
  rw [getD_set _ _ _ _ (by simpa using hj), getD_set _ _ _ _ hi]
  split
  · exact h i hi
  · split
    · exact h j hj
    · exact h k hk

/-- The items lie in block r0 as they were; the block r, the call's own, holds the items M. -/
structure SInv (w wr : World) (r0 r n : Nat) (L M : List It) : Prop where
  below : Below w.heap.size w wr
  items : RowL wr (some ⟨r0, 0, none⟩) L
  row : ∃ cur, wr.heap[r]? = some (.cells cur 37 (0, 0)) ∧ cur.size = n * 4 ∧ ∀ i j, i < n → j < 4 → cur[i * 4 + j]? = some (cellOf (M.getD i dIt) j)
  hr : w.heap.size ≤ r
  ne : r0 ≠ r
  len : M.length = n

section
variable {w wr : World} {r0 r n : Nat} {L M : List It}

theorem SInv.lt (H : SInv w wr r0 r n L M) : r < wr.heap.size := by
  obtain ⟨cur, h, _⟩ := H.row
  exact (Array.getElem?_eq_some_iff.1 h).1

theorem SInv.cell (H : SInv w wr r0 r n L M) {i j : Nat} (hi : i < n) (hj : j < 4) : wr.cell? ⟨r, i * 4 + j, none⟩ = some (cellOf (M.getD i dIt) j) := by
  obtain ⟨cur, h1, h2, h3⟩ := H.row
  simp [World.cell?, h1, h3 i j hi hj]

theorem SInv.there (H : SInv w wr r0 r n L M) {i : Nat} (hi : i < n) : wr.there r (i * 4) 4 := by
  obtain ⟨cur, h1, h2, h3⟩ := H.row
  intro j hj
  constructor
  · simp [World.cell?, h1]; omega
  · simp [World.frozen?, h1]

theorem SInv.alloc (H : SInv w wr r0 r n L M) (o : Obj) : SInv w (wr.alloc o) r0 r n L M := by
  have hb := (Below.refl wr.heap.size wr).alloc (Nat.le_refl _) o
  obtain ⟨cur, h1, h2⟩ := H.row
  exact ⟨H.below.trans (hb.mono H.below.size), H.items.later hb, ⟨cur, (Below.heap_alloc wr o r H.lt).trans h1, h2⟩, H.hr, H.ne, H.len⟩

theorem SInv.write (H : SInv w wr r0 r n L M) {c : Nat} (hc : c < n) (s : It) : SInv w (wr.setCells r (c * 4) [cellOf s 0, cellOf s 1, cellOf s 2, cellOf s 3]) r0 r n L (M.set c s) := by
  obtain ⟨cur, h1, h2, h3⟩ := H.row
  have hr := H.hr
  have e1 := heap_setCell_same _ _ (c * 4) _ _ (cellOf s 0) h1
  have e2 := heap_setCell_same _ _ (c * 4 + 1) _ _ (cellOf s 1) e1
  have e3 := heap_setCell_same _ _ (c * 4 + 1 + 1) _ _ (cellOf s 2) e2
  have e4 := heap_setCell_same _ _ (c * 4 + 1 + 1 + 1) _ _ (cellOf s 3) e3
  have hb := (((H.below.setCell (p := ⟨r, c * 4, none⟩) (by exact hr) (cellOf s 0)).setCell (p := ⟨r, c * 4 + 1, none⟩) (by exact hr) (cellOf s 1)).setCell (p := ⟨r, c * 4 + 1 + 1, none⟩) (by exact hr) (cellOf s 2)).setCell (p := ⟨r, c * 4 + 1 + 1 + 1, none⟩) (by exact hr) (cellOf s 3)
  refine ⟨hb, ?_, ⟨_, e4, by simpa using h2, ?_⟩, hr, H.ne, by simpa using H.len⟩
  · rcases H.items with h | ⟨b, o, e, hlt, hcc⟩
    · exact .inl h
    · have hbr : b = r0 := by cases e; rfl
      subst hbr
      refine .inr ⟨_, _, e, ?_, fun i j hi hj => ?_⟩
      · simpa [World.setCells, World.setCell] using hlt
      · rw [cell_setCells_far r _ _ _ _ (by exact H.ne.symm)]
        exact hcc i j hi hj
  · intro i j hi hj
    rw [getD_set _ _ _ _ (by rw [H.len]; exact hc)]
    by_cases hic : i = c
    · subst hic
      rw [if_pos rfl]
      have hb0 : i * 4 < cur.size := by omega
      have hb1 : i * 4 + 1 < cur.size := by omega
      have hb2 : i * 4 + 1 + 1 < cur.size := by omega
      have hb3 : i * 4 + 1 + 1 + 1 < cur.size := by omega
      match j, hj with
      | 0, _ =>
        simp only [Nat.add_zero]
        rw [Array.getElem?_setIfInBounds_ne (by omega), Array.getElem?_setIfInBounds_ne (by omega), Array.getElem?_setIfInBounds_ne (by omega), Array.getElem?_setIfInBounds_self_of_lt (by simpa using hb0)]
      | 1, _ =>
        rw [Array.getElem?_setIfInBounds_ne (by omega), Array.getElem?_setIfInBounds_ne (by omega), Array.getElem?_setIfInBounds_self_of_lt (by simpa using hb1)]
      | 2, _ =>
        rw [Array.getElem?_setIfInBounds_ne (by omega), Array.getElem?_setIfInBounds_self_of_lt (by simpa using hb2)]
      | 3, _ =>
        rw [Array.getElem?_setIfInBounds_self_of_lt (by simpa using hb3)]
    · rw [if_neg hic, Array.getElem?_setIfInBounds_ne (by omega), Array.getElem?_setIfInBounds_ne (by omega), Array.getElem?_setIfInBounds_ne (by omega), Array.getElem?_setIfInBounds_ne (by omega)]
      exact h3 i j (by omega) hj

theorem SInv.rowL (H : SInv w wr r0 r n L M) : RowL wr (some ⟨r, 0, none⟩) M := by
  have hl := H.len
  refine .inr ⟨r, 0, rfl, H.lt, ?_⟩
  intro i j hi hj
  rw [Nat.zero_add]
  exact H.cell (by omega) hj
end

/-- A box that holds an item. -/
def BoxAt (w : World) (x : Nat) (s : It) : Prop := x < w.heap.size ∧ ∀ j, j < 4 → w.cell? ⟨x, j, none⟩ = some (cellOf s j)

theorem BoxAt.alloc {w : World} {x : Nat} {s : It} (h : BoxAt w x s) (o : Obj) : BoxAt (w.alloc o) x s :=
  have hb := (Below.refl w.heap.size w).alloc (Nat.le_refl _) o
  ⟨Nat.lt_of_lt_of_le h.1 hb.size, fun j hj => (hb.cell (p := ⟨x, j, none⟩) h.1).trans (h.2 j hj)⟩

theorem boxAt_new (w : World) (s : It) : BoxAt (w.alloc (.cells #[cellOf s 0, cellOf s 1, cellOf s 2, cellOf s 3] 37)) w.heap.size s := by
  refine ⟨by simp, fun j hj => ?_⟩
  rw [cell_new]
  match j, hj with
  | 0, _ => rfl
  | 1, _ => rfl
  | 2, _ => rfl
  | 3, _ => rfl

theorem BoxAt.write {w : World} {x r o : Nat} {s : It} (h : BoxAt w x s) (hne : r ≠ x) (v0 v1 v2 v3 : Value) : BoxAt (w.setCells r o [v0, v1, v2, v3]) x s := by
  refine ⟨?_, fun j hj => ?_⟩
  · simpa [World.setCells, World.setCell] using h.1
  · rw [cell_setCells_far r _ _ _ _ (by exact hne)]
    exact h.2 j hj

theorem run_sto37_new (w : World) (cs : Array Value) (x : Int) (s : ByteArray) (v : Int) (f : Bool) (hs : cs.size = 4) :
    (sto37 (.pointer (some ⟨w.heap.size, 0, none⟩)) (.agg #[.int .i64 x, .string s, .int .i64 v, .bool f])).run Tryf.prog (w.alloc (.cells cs 37)) = .ok () (w.alloc (.cells #[.int .i64 x, .string s, .int .i64 v, .bool f] 37)) :=
  run_storeAt_new (P := Tryf.prog) w 37 cs #[.int .i64 x, .string s, .int .i64 v, .bool f] Tryf.sz37 hs (by simp [Value.oneCell'])
end Go.Proofs.Qxb6627403aFmt
