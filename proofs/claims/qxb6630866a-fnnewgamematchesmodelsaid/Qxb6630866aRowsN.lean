/-
  Rows that buildMaze and buildShuffled fill. Seat b6630866a.
-/
import Derived.Test.Qxb6630866aGame
import Derived.Maps.RangeWalk
import Derived.Deep.MidRow
namespace Go.Proofs.Qxb6630866a
open Go.RowKit Go.Maps
set_option linter.unusedVariables false

/-- A row that lies in another block than mb. -/
def RowN (mb : Nat) (w : World) (a : Option Addr) (n k : Nat) (f : Nat → Nat → Int) : Prop :=
  n = 0 ∨ ∃ b o, a = some ⟨b, o, none⟩ ∧ b ≠ mb ∧ b < w.heap.size ∧ ∀ i j, i < n → j < k → w.cell? ⟨b, o + i * k + j, none⟩ = some (.int .i64 (f i j))

theorem RowN.row {mb : Nat} {w : World} {a : Option Addr} {n k : Nat} {f : Nat → Nat → Int} (h : RowN mb w a n k f) : RowF w a n k f := by
  rcases h with h | ⟨b, o, e, _, hlt, hc⟩
  · exact .inl h
  · exact .inr ⟨b, o, e, hlt, hc⟩

theorem RowN.kept {mb : Nat} {w w' : World} {a : Option Addr} {n k : Nat} {f : Nat → Nat → Int} (h : RowN mb w a n k f) (hg : w.grownBy w' (some mb)) : RowN mb w' a n k f := by
  rcases h with h | ⟨b, o, e, hne, hlt, hc⟩
  · exact .inl h
  · exact .inr ⟨b, o, e, hne, Nat.lt_of_lt_of_le hlt hg.size, fun i j hi hj => (World.cell?_of_block (a := ⟨b, o + i * k + j, none⟩) (hg.block b hlt (by simpa using hne))).trans (hc i j hi hj)⟩

theorem RowF.old {mb : Nat} {w : World} {a : Option Addr} {n k : Nat} {f : Nat → Nat → Int} (h : RowF w a n k f) (hm : w.heap.size ≤ mb) : RowN mb w a n k f := by
  rcases h with h | ⟨b, o, e, hlt, hc⟩
  · exact .inl h
  · exact .inr ⟨b, o, e, by omega, hlt, hc⟩

theorem grown_of_below {w w' : World} (h : Below w.heap.size w w') (row : Option Nat) : w.grownBy w' row := ⟨h.os, h.tape, h.output, h.size, fun k hk _ => h.block k hk⟩

theorem grown_set {w wr : World} {mb : Nat} (h : w.grownBy wr (some mb)) {a : Addr} (ha : w.heap.size ≤ a.block ∨ a.block = mb) (v : Value) : w.grownBy (wr.setCell a v) (some mb) :=
  ⟨h.os, h.tape, h.output, by simpa using h.size, fun k hk hne => by
    rw [heap_setCell_other _ _ _ _ (by rcases ha with ha | ha; · omega
                                       · intro e; exact hne (by rw [e, ha]))]
    exact h.block k hk hne⟩

/-- In mid-flight: m's block, the row that is filled, c elements of it done. -/
structure LInv (wc wr : World) (mb : Nat) (mc : Array Value) (r : Nat) (t : TypeId) (n k : Nat) (F : Nat → Nat → Int) (c : Nat) : Prop where
  blk : wr.heap[mb]? = some (.cells mc 64 (0, 0))
  gr : wc.grownBy wr (some mb)
  row : ∃ cur, wr.heap[r]? = some (.cells cur t (0, 0)) ∧ cur.size = n * k ∧ ∀ i j, i < c → j < k → cur[i * k + j]? = some (.int .i64 (F i j))
  hr : wc.heap.size ≤ r
  hm : mb < wc.heap.size

section
variable {wc wr wK : World} {mb : Nat} {mc : Array Value} {r : Nat} {t : TypeId} {n k : Nat} {F : Nat → Nat → Int} {c : Nat}

theorem LInv.lt (H : LInv wc wr mb mc r t n k F c) : mb < wr.heap.size ∧ r < wr.heap.size := by
  obtain ⟨cur, h, _⟩ := H.row
  exact ⟨(Array.getElem?_eq_some_iff.1 H.blk).1, (Array.getElem?_eq_some_iff.1 h).1⟩

theorem LInv.later (H : LInv wc wr mb mc r t n k F c) (hb : Below wr.heap.size wr wK) : LInv wc wK mb mc r t n k F c := by
  obtain ⟨cur, h1, h2, h3⟩ := H.row
  have hl := H.lt
  exact ⟨(hb.block _ hl.1).trans H.blk, H.gr.trans (grown_of_below hb _), ⟨cur, (hb.block _ hl.2).trans h1, h2, h3⟩, H.hr, H.hm⟩

theorem LInv.cell (H : LInv wc wr mb mc r t n k F c) (q : Nat) : wr.cell? ⟨mb, q, none⟩ = mc[q]? := by simp [World.cell?, H.blk]

theorem LInv.there (H : LInv wc wr mb mc r t n k F c) (q : Nat) (hq : q < n * k) : ∃ v, wr.cell? ⟨r, q, none⟩ = some v := by
  obtain ⟨cur, h1, h2, h3⟩ := H.row
  exact ⟨cur[q]'(by omega), by simp [World.cell?, h1, h2, hq]⟩

theorem LInv.frozen (H : LInv wc wr mb mc r t n k F c) (q : Nat) : wr.frozen? ⟨r, q, none⟩ = false := by
  obtain ⟨cur, h1, h2, h3⟩ := H.row
  simp [World.frozen?, h1]

/-- One element stored, cell by cell. -/
theorem LInv.set (H : LInv wc wr mb mc r t n k F c) (q : Nat) (v : Value) (hq : c * k ≤ q) : LInv wc (wr.setCell ⟨r, q, none⟩ v) mb mc r t n k F c := by
  obtain ⟨cur, h1, h2, h3⟩ := H.row
  have hm := H.hm; have hr := H.hr
  refine ⟨(heap_setCell_other _ _ _ _ (by show mb ≠ r; omega)).trans H.blk, grown_set H.gr (.inl hr) v, ⟨cur.setIfInBounds q v, heap_setCell_same _ _ _ _ _ _ h1, by simpa using h2, ?_⟩, hr, hm⟩
  intro i j hi hj
  have : i * k + j < c * k := by
    have : (i + 1) * k ≤ c * k := Nat.mul_le_mul_right k hi
    rw [Nat.succ_mul] at this; omega
  rw [Array.getElem?_setIfInBounds_ne (by omega)]
  exact h3 i j hi hj

/-- One element is done when its cells read so. -/
theorem LInv.done (H : LInv wc wr mb mc r t n k F c) (h : ∀ j, j < k → wr.cell? ⟨r, c * k + j, none⟩ = some (.int .i64 (F c j))) : LInv wc wr mb mc r t n k F (c + 1) := by
  obtain ⟨cur, h1, h2, h3⟩ := H.row
  refine ⟨H.blk, H.gr, ⟨cur, h1, h2, ?_⟩, H.hr, H.hm⟩
  intro i j hi hj
  by_cases e : i = c
  · subst e
    have := h j hj
    simpa [World.cell?, h1] using this
  · exact h3 i j (by omega) hj

theorem LInv.rowN (H : LInv wc wr mb mc r t n k F n) : RowN mb wr (some ⟨r, 0, none⟩) n k F := by
  obtain ⟨cur, h1, h2, h3⟩ := H.row
  have hm := H.hm; have hr := H.hr
  refine .inr ⟨r, 0, rfl, by omega, H.lt.2, ?_⟩
  intro i j hi hj
  rw [Nat.zero_add]
  simp [World.cell?, h1, h3 i j hi hj]

theorem linv_start {w1 : World} {z : List Value} (hown : w1.ownsRow wc.heap.size t k (.slice (some ⟨wc.heap.size, 0, none⟩) n n) n z) (hgrow : wc.grownBy w1 none) (hblk : wc.heap[mb]? = some (.cells mc 64 (0, 0))) (q : Nat) :
    LInv wc (w1.setCell ⟨mb, q, none⟩ (.slice (some ⟨wc.heap.size, 0, none⟩) n n)) mb (mc.setIfInBounds q (.slice (some ⟨wc.heap.size, 0, none⟩) n n)) wc.heap.size t n k F 0 := by
  have hmb : mb < wc.heap.size := (Array.getElem?_eq_some_iff.1 hblk).1
  obtain ⟨hx, h | ⟨g', cap, cur, e, hbg, hg, hnc, hcm, hsz, htk⟩⟩ := hown
  · simp at h
  · simp only [Value.slice.injEq, Option.some.injEq, Addr.mk.injEq] at e
    obtain ⟨⟨rfl, -⟩, -, rfl⟩ := e
    have h1 : w1.heap[mb]? = some (.cells mc 64 (0, 0)) := (hgrow.block mb hmb (by simp)).trans hblk
    exact ⟨heap_setCell_same _ _ _ _ _ _ h1, grown_set (hgrow.but _) (.inr rfl) _, ⟨cur, (heap_setCell_other _ _ _ _ (by show wc.heap.size ≠ mb; omega)).trans hg, hsz, fun i j hi => absurd hi (by omega)⟩, Nat.le_refl _, hmb⟩
end

theorem below_of_drew {w w' : World} (h : Below w.drew.heap.size w.drew w') : Below w.heap.size w w' := ((Below.refl _ _).drew).trans h

/-- The stores of one element. -/
theorem LInv.put4 {wc wr : World} {mb : Nat} {mc : Array Value} {r : Nat} {t : TypeId} {n : Nat} {F : Nat → Nat → Int} {c : Nat} (H : LInv wc wr mb mc r t n 4 F c) (hc : c < n) :
    LInv wc ((((wr.setCell ⟨r, c * 4, none⟩ (.int .i64 (F c 0))).setCell ⟨r, c * 4 + 1, none⟩ (.int .i64 (F c 1))).setCell ⟨r, c * 4 + 2, none⟩ (.int .i64 (F c 2))).setCell ⟨r, c * 4 + 3, none⟩ (.int .i64 (F c 3))) mb mc r t n 4 F (c + 1) := by
  have H' := (((H.set (c * 4) (.int .i64 (F c 0)) (by omega)).set (c * 4 + 1) (.int .i64 (F c 1)) (by omega)).set (c * 4 + 2) (.int .i64 (F c 2)) (by omega)).set (c * 4 + 3) (.int .i64 (F c 3)) (by omega)
  refine H'.done ?_
  obtain ⟨cur, h1, h2, h3⟩ := H.row
  have e1 := heap_setCell_same _ _ (c * 4) _ _ (.int .i64 (F c 0)) h1
  have e2 := heap_setCell_same _ _ (c * 4 + 1) _ _ (.int .i64 (F c 1)) e1
  have e3 := heap_setCell_same _ _ (c * 4 + 2) _ _ (.int .i64 (F c 2)) e2
  have e4 := heap_setCell_same _ _ (c * 4 + 3) _ _ (.int .i64 (F c 3)) e3
  intro j hj
  simp only [World.cell?, e4]
  have hb : c * 4 + 3 < cur.size := by omega
  match j, hj with
  | 0, _ => simp [Array.getElem?_setIfInBounds]; omega
  | 1, _ => simp [Array.getElem?_setIfInBounds]; omega
  | 2, _ => simp [Array.getElem?_setIfInBounds]; omega
  | 3, _ => simp [Array.getElem?_setIfInBounds]; omega

theorem LInv.put5 {wc wr : World} {mb : Nat} {mc : Array Value} {r : Nat} {t : TypeId} {n : Nat} {F : Nat → Nat → Int} {c : Nat} (H : LInv wc wr mb mc r t n 5 F c) (hc : c < n) :
    LInv wc (((((wr.setCell ⟨r, c * 5, none⟩ (.int .i64 (F c 0))).setCell ⟨r, c * 5 + 1, none⟩ (.int .i64 (F c 1))).setCell ⟨r, c * 5 + 2, none⟩ (.int .i64 (F c 2))).setCell ⟨r, c * 5 + 3, none⟩ (.int .i64 (F c 3))).setCell ⟨r, c * 5 + 4, none⟩ (.int .i64 (F c 4))) mb mc r t n 5 F (c + 1) := by
  have H' := ((((H.set (c * 5) (.int .i64 (F c 0)) (by omega)).set (c * 5 + 1) (.int .i64 (F c 1)) (by omega)).set (c * 5 + 2) (.int .i64 (F c 2)) (by omega)).set (c * 5 + 3) (.int .i64 (F c 3)) (by omega)).set (c * 5 + 4) (.int .i64 (F c 4)) (by omega)
  refine H'.done ?_
  obtain ⟨cur, h1, h2, h3⟩ := H.row
  have e1 := heap_setCell_same _ _ (c * 5) _ _ (.int .i64 (F c 0)) h1
  have e2 := heap_setCell_same _ _ (c * 5 + 1) _ _ (.int .i64 (F c 1)) e1
  have e3 := heap_setCell_same _ _ (c * 5 + 2) _ _ (.int .i64 (F c 2)) e2
  have e4 := heap_setCell_same _ _ (c * 5 + 3) _ _ (.int .i64 (F c 3)) e3
  have e5 := heap_setCell_same _ _ (c * 5 + 4) _ _ (.int .i64 (F c 4)) e4
  intro j hj
  simp only [World.cell?, e5]
  have hb : c * 5 + 4 < cur.size := by omega
  match j, hj with
  | 0, _ => simp [Array.getElem?_setIfInBounds]; omega
  | 1, _ => simp [Array.getElem?_setIfInBounds]; omega
  | 2, _ => simp [Array.getElem?_setIfInBounds]; omega
  | 3, _ => simp [Array.getElem?_setIfInBounds]; omega
  | 4, _ => simp [Array.getElem?_setIfInBounds]; omega

theorem LInv.put2 {wc wr : World} {mb : Nat} {mc : Array Value} {r : Nat} {t : TypeId} {n : Nat} {F : Nat → Nat → Int} {c : Nat} (H : LInv wc wr mb mc r t n 2 F c) (hc : c < n) :
    LInv wc ((wr.setCell ⟨r, c * 2, none⟩ (.int .i64 (F c 0))).setCell ⟨r, c * 2 + 1, none⟩ (.int .i64 (F c 1))) mb mc r t n 2 F (c + 1) := by
  have H' := (H.set (c * 2) (.int .i64 (F c 0)) (by omega)).set (c * 2 + 1) (.int .i64 (F c 1)) (by omega)
  refine H'.done ?_
  obtain ⟨cur, h1, h2, h3⟩ := H.row
  have e1 := heap_setCell_same _ _ (c * 2) _ _ (.int .i64 (F c 0)) h1
  have e2 := heap_setCell_same _ _ (c * 2 + 1) _ _ (.int .i64 (F c 1)) e1
  intro j hj
  simp only [World.cell?, e2]
  have hb : c * 2 + 1 < cur.size := by omega
  match j, hj with
  | 0, _ => simp [Array.getElem?_setIfInBounds]; omega
  | 1, _ => simp [Array.getElem?_setIfInBounds]; omega

/-- Stores of whole elements, by one rule each. -/
theorem Try.sz66 : (Try.prog.info? 66).map (·.size) = some 5 := by kernel_rfl
def sto66 (p v : Value) : Sem Unit := Instr.storeAt 66 p v
theorem sto66_eq (p v : Value) : Instr.storeAt 66 p v = sto66 p v := rfl
theorem run_sto66 (w : World) (b o : Nat) (x0 x1 x2 x3 x4 : Int) (ht : w.there b o 5) :
    (sto66 (.pointer (some ⟨b, o, none⟩)) (.agg #[.int .i64 x0, .int .i64 x1, .int .i64 x2, .int .i64 x3, .int .i64 x4])).run Try.prog w = .ok () (w.setCells b o [.int .i64 x0, .int .i64 x1, .int .i64 x2, .int .i64 x3, .int .i64 x4]) :=
  run_storeAt_mid (P := Try.prog) w b o 66 #[.int .i64 x0, .int .i64 x1, .int .i64 x2, .int .i64 x3, .int .i64 x4] ht Try.sz66 (by simp [Value.oneCell'])
theorem Try.sz37 : (Try.prog.info? 37).map (·.size) = some 4 := by kernel_rfl
def sto37 (p v : Value) : Sem Unit := Instr.storeAt 37 p v
theorem sto37_eq (p v : Value) : Instr.storeAt 37 p v = sto37 p v := rfl
theorem run_sto37 (w : World) (b o : Nat) (x0 x1 x2 x3 : Int) (ht : w.there b o 4) :
    (sto37 (.pointer (some ⟨b, o, none⟩)) (.agg #[.int .i64 x0, .int .i64 x1, .int .i64 x2, .int .i64 x3])).run Try.prog w = .ok () (w.setCells b o [.int .i64 x0, .int .i64 x1, .int .i64 x2, .int .i64 x3]) :=
  run_storeAt_mid (P := Try.prog) w b o 37 #[.int .i64 x0, .int .i64 x1, .int .i64 x2, .int .i64 x3] ht Try.sz37 (by simp [Value.oneCell'])
theorem Try.sz35 : (Try.prog.info? 35).map (·.size) = some 2 := by kernel_rfl
def sto35 (p v : Value) : Sem Unit := Instr.storeAt 35 p v
theorem sto35_eq (p v : Value) : Instr.storeAt 35 p v = sto35 p v := rfl
theorem run_sto35 (w : World) (b o : Nat) (x0 x1 : Int) (ht : w.there b o 2) :
    (sto35 (.pointer (some ⟨b, o, none⟩)) (.agg #[.int .i64 x0, .int .i64 x1])).run Try.prog w = .ok () (w.setCells b o [.int .i64 x0, .int .i64 x1]) :=
  run_storeAt_mid (P := Try.prog) w b o 35 #[.int .i64 x0, .int .i64 x1] ht Try.sz35 (by simp [Value.oneCell'])
theorem cell_setCells_far (b : Nat) : ∀ (vs : List Value) (o : Nat) (w : World) (a : Addr), b ≠ a.block → (w.setCells b o vs).cell? a = w.cell? a
  | [], _, _, _, _ => rfl
  | v :: r, o, w, a, h => by
    rw [World.setCells, cell_setCells_far b r (o + 1) _ a h]
    exact World.cell?_setCell_far _ _ _ _ h

theorem LInv.there' {wc wr : World} {mb : Nat} {mc : Array Value} {r : Nat} {t : TypeId} {n k : Nat} {F : Nat → Nat → Int} {c : Nat} (H : LInv wc wr mb mc r t n k F c) (hc : c < n) : wr.there r (c * k) k := by
  intro j hj
  obtain ⟨v, hv⟩ := H.there (c * k + j) (by
    have : (c + 1) * k ≤ n * k := Nat.mul_le_mul_right k hc
    rw [Nat.succ_mul] at this; omega)
  exact ⟨by rw [hv]; rfl, H.frozen _⟩

theorem there_blk {w : World} {b : Nat} {cs : Array Value} {t : TypeId} (hb : w.heap[b]? = some (.cells cs t (0, 0))) {o n : Nat} (h : o + n ≤ cs.size) : w.there b o n := by
  intro j hj
  constructor
  · simp [World.cell?, hb]; omega
  · simp [World.frozen?, hb]

theorem cell_kept {w w' : World} (hb : Below w.heap.size w w') {b q : Nat} {v : Value} (h : w.cell? ⟨b, q, none⟩ = some v) : w'.cell? ⟨b, q, none⟩ = some v :=
  (hb.cell (p := ⟨b, q, none⟩) (World.block_lt_of_cell? w ⟨b, q, none⟩ h)).trans h

/-- Each edge turned round (a fifth number stays); the list backwards. -/
def flipF (f : Nat → Nat → Int) (i : Nat) : Nat → Int
  | 0 => f i 2
  | 1 => f i 3
  | 2 => f i 0
  | 3 => f i 1
  | j => f i j
def revF (n : Nat) (f : Nat → Nat → Int) (i j : Nat) : Int := f (n - 1 - i) j

/-- m's block. -/
def mazeCells (x0 x1 : Int) (v2 v3 v4 : Value) (s0x s0y s1x s1y : Int) : Array Value :=
  #[.int .i64 x0, .int .i64 x1, v2, v3, v4, .int .i64 s0x, .int .i64 s0y, .int .i64 s1x, .int .i64 s1y]

theorem maze_fin {wc : World} {mb : Nat} {x0 x1 s0x s0y s1x s1y : Int} {v2 v3 v4 : Value} (hblk : wc.heap[mb]? = some (.cells (mazeCells x0 x1 v2 v3 v4 0 0 0 0) 64 (0, 0))) :
    ((wc.setCells mb 5 [.int .i64 s0x, .int .i64 s0y]).setCells mb 7 [.int .i64 s1x, .int .i64 s1y]).heap[mb]? = some (.cells (mazeCells x0 x1 v2 v3 v4 s0x s0y s1x s1y) 64 (0, 0)) ∧
      wc.grownBy ((wc.setCells mb 5 [.int .i64 s0x, .int .i64 s0y]).setCells mb 7 [.int .i64 s1x, .int .i64 s1y]) (some mb) := by
  have e1 := heap_setCell_same _ _ 5 _ _ (.int .i64 s0x) hblk
  have e2 := heap_setCell_same _ _ 6 _ _ (.int .i64 s0y) e1
  have e3 := heap_setCell_same _ _ 7 _ _ (.int .i64 s1x) e2
  have e4 := heap_setCell_same _ _ 8 _ _ (.int .i64 s1y) e3
  have g1 := grown_set (World.grownBy.refl wc (some mb)) (a := ⟨mb, 5, none⟩) (.inr rfl) (.int .i64 s0x)
  have g2 := grown_set g1 (a := ⟨mb, 6, none⟩) (.inr rfl) (.int .i64 s0y)
  have g3 := grown_set g2 (a := ⟨mb, 7, none⟩) (.inr rfl) (.int .i64 s1x)
  have g4 := grown_set g3 (a := ⟨mb, 8, none⟩) (.inr rfl) (.int .i64 s1y)
  exact ⟨e4, g4⟩

theorem Try.info37 : (Try.prog.info? 37).map (fun i => (i.zero, i.size, i.bytes)) = some (some (.agg #[.int .i64 0, .int .i64 0, .int .i64 0, .int .i64 0]), 4, 32) := by kernel_rfl
theorem Try.info66 : (Try.prog.info? 66).map (fun i => (i.zero, i.size, i.bytes)) = some (some (.agg #[.int .i64 0, .int .i64 0, .int .i64 0, .int .i64 0, .int .i64 0]), 5, 40) := by kernel_rfl
theorem Try.info35 : (Try.prog.info? 35).map (fun i => (i.zero, i.size, i.bytes)) = some (some (.agg #[.int .i64 0, .int .i64 0]), 2, 16) := by kernel_rfl
end Go.Proofs.Qxb6630866a
