/-
  The walk of NewGame (function 7). Seat b6630866a.
-/
import Derived.Test.Qxb6630866aLeaf
import Derived.Deep.RegionHeld3
import Derived.Deep.DrawnRows
import Derived.Deep.Cut
import Derived.BigRegion
namespace Go.Proofs.Qxb6630866a
open Go.RowKit Go.Maps
set_option linter.unusedVariables false
attribute [local go_sem ↓] Go.wp_at_zero Go.wp_at_succ

/-- n elements of k numbers each, from an address on. -/
def RowF (w : World) (a : Option Addr) (n k : Nat) (f : Nat → Nat → Int) : Prop :=
  n = 0 ∨ ∃ b o, a = some ⟨b, o, none⟩ ∧ b < w.heap.size ∧ ∀ i j, i < n → j < k → w.cell? ⟨b, o + i * k + j, none⟩ = some (.int .i64 (f i j))

theorem RowF.later {w w' : World} {a : Option Addr} {n k : Nat} {f : Nat → Nat → Int} (h : RowF w a n k f) (hb : Below w.heap.size w w') : RowF w' a n k f := by
  rcases h with h | ⟨b, o, e, hlt, hc⟩
  · exact .inl h
  · exact .inr ⟨b, o, e, Nat.lt_of_lt_of_le hlt hb.size, fun i j hi hj => (hb.cell (p := ⟨b, o + i * k + j, none⟩) hlt).trans (hc i j hi hj)⟩

/-- Each number fits. -/
def Fits (n k : Nat) (f : Nat → Nat → Int) : Prop := ∀ i j, i < n → j < k → ok (f i j)

def ed (f : Nat → Nat → Int) (i : Nat) : Ed := (f i 0, f i 1, f i 2, f i 3)
def ce (f : Nat → Nat → Int) (i : Nat) : Ce := (f i 0, f i 1)

/-- What the three maps hold behind k rounds. -/
def wD (f : Nat → Nat → Int) : Nat → DataW Unit
  | 0 => .map []
  | k + 1 => (wD f k).put (kl (keyE (ed f k))) (.lit (.bool true))
def mD (f : Nat → Nat → Int) : Nat → DataW Unit
  | 0 => .map []
  | k + 1 => (mD f k).put (kl (keyE (ed f k))) (.lit (.int .i64 (f k 4)))
def cD (f : Nat → Nat → Int) : Nat → DataW Unit
  | 0 => .map []
  | k + 1 => (cD f k).put (kc (ce f k)) (.lit (.bool true))

/-- The game's block. -/
def gameCells (m : Nat) (bw bm bc : Nat) (s0x s0y s1x s1y : Int) : Array Value :=
  #[.pointer (some ⟨m, 0, none⟩), .map (some bw), .map (some bm), .map (some bc), .int .i64 s0x, .int .i64 s0y, .int .i64 0, .int .i64 0, .int .i64 0,
    .int .i64 s1x, .int .i64 s1y, .int .i64 0, .int .i64 0, .int .i64 0, .int .i64 0, .int .i64 0]

theorem okE_key {e : Ed} (h : Ed.ok e) : Ed.ok (keyE e) := by
  unfold keyE; split
  · exact ⟨h.2.2.1, h.2.2.2, h.1, h.2.1⟩
  · exact h

/-- What holds of the game's four blocks in mid-flight. -/
structure GInv (f g h : Nat → Nat → Int) (m bw bm bc gb : Nat) (s0x s0y s1x s1y : Int) (w wr : World) (i j l : Nat) : Prop where
  blk : wr.heap[gb]? = some (.cells (gameCells m bw bm bc s0x s0y s1x s1y) 72 (0, 0))
  walls : wr.ownsMap Try.prog 37 (plainElem (H := Unit) Try.prog 4) bw i (wD f i)
  mud : wr.ownsMap Try.prog 37 (plainElem (H := Unit) Try.prog 3) bm j (mD g j)
  cheese : wr.ownsMap Try.prog 35 (plainElem (H := Unit) Try.prog 4) bc l (cD h l)
  below : Below w.heap.size w wr
  base : w.heap.size ≤ bw
  o1 : bw < bm
  o2 : bm < bc
  o3 : bc < gb

section
variable {f g h : Nat → Nat → Int} {m bw bm bc gb : Nat} {s0x s0y s1x s1y : Int} {w wr wK w2 : World} {i j l : Nat}

theorem ownsMap_block {w w' : World} {k : TypeId} {R : Value → Option (DataW Unit × List MemPlace)} {b n : Nat} {D : DataW Unit} (H : w.ownsMap Try.prog k R b n D) (hb : w'.heap[b]? = w.heap[b]?) : w'.ownsMap Try.prog k R b n D := by
  obtain ⟨es, clock, h1, h2⟩ := H
  exact ⟨es, clock, hb.trans h1, h2⟩

theorem GInv.lt (H : GInv f g h m bw bm bc gb s0x s0y s1x s1y w wr i j l) : gb < wr.heap.size := (Array.getElem?_eq_some_iff.1 H.blk).1

theorem GInv.later (H : GInv f g h m bw bm bc gb s0x s0y s1x s1y w wr i j l) (hb : Below wr.heap.size wr wK) : GInv f g h m bw bm bc gb s0x s0y s1x s1y w wK i j l := by
  have hlt := H.lt
  have o1 := H.o1; have o2 := H.o2; have o3 := H.o3
  exact ⟨(hb.block gb hlt).trans H.blk, ownsMap_block H.walls (hb.block _ (by omega)), ownsMap_block H.mud (hb.block _ (by omega)), ownsMap_block H.cheese (hb.block _ (by omega)), H.below.trans (hb.mono H.below.size), H.base, o1, o2, o3⟩

theorem other_cell {w w' : World} {b : Nat} (hg : w.grownBy w' (some b)) : ∀ x o, x ≠ b → x < w.heap.size → w'.cell? ⟨x, o, none⟩ = w.cell? ⟨x, o, none⟩ :=
  fun x o hne hlt => World.cell?_of_block (a := ⟨x, o, none⟩) (hg.block x hlt (by simpa using hne))

theorem GInv.putWall (H : GInv f g h m bw bm bc gb s0x s0y s1x s1y w wK i j l) (hi : i < 4096) (he : Ed.ok (ed f i)) :
    ∃ w2, (Instr.mapUpdate 31 (.map (some bw)) (ev (keyE (ed f i))) (.bool true)).run Try.prog wK = .ok () w2 ∧ GInv f g h m bw bm bc gb s0x s0y s1x s1y w w2 (i + 1) j l ∧ ∀ x o, x ≠ bw → x < wK.heap.size → w2.cell? ⟨x, o, none⟩ = wK.cell? ⟨x, o, none⟩ := by
  obtain ⟨w2, hrun, hown, hgr⟩ := H.walls.update law37 Try.underlying31 (by unfold maxLen; omega) (keyOf_ev _ (okE_key he)) (plainElem_bool Try.underlying4 true)
  have hlt := H.lt
  have o0 := H.base; have o1 := H.o1; have o2 := H.o2; have o3 := H.o3
  exact ⟨w2, hrun, ⟨(hgr.block gb hlt (by simp; omega)).trans H.blk, hown, ownsMap_block H.mud (hgr.block _ (by omega) (by simp; omega)), ownsMap_block H.cheese (hgr.block _ (by omega) (by simp; omega)),
    H.below.grown hgr H.below.size (fun k hk => by cases hk; exact o0), o0, o1, o2, o3⟩, other_cell hgr⟩

theorem GInv.putMud (H : GInv f g h m bw bm bc gb s0x s0y s1x s1y w wK i j l) (hi : j < 4096) (he : Ed.ok (ed g j)) (ht : ok (g j 4)) :
    ∃ w2, (Instr.mapUpdate 43 (.map (some bm)) (ev (keyE (ed g j))) (.int .i64 (g j 4))).run Try.prog wK = .ok () w2 ∧ GInv f g h m bw bm bc gb s0x s0y s1x s1y w w2 i (j + 1) l ∧ ∀ x o, x ≠ bm → x < wK.heap.size → w2.cell? ⟨x, o, none⟩ = wK.cell? ⟨x, o, none⟩ := by
  obtain ⟨w2, hrun, hown, hgr⟩ := H.mud.update law37 Try.underlying43 (by unfold maxLen; omega) (keyOf_ev _ (okE_key he)) (plainElem_int Try.underlying3 ht)
  have hlt := H.lt
  have o0 := H.base; have o1 := H.o1; have o2 := H.o2; have o3 := H.o3
  exact ⟨w2, hrun, ⟨(hgr.block gb hlt (by simp; omega)).trans H.blk, ownsMap_block H.walls (hgr.block _ (by omega) (by simp; omega)), hown, ownsMap_block H.cheese (hgr.block _ (by omega) (by simp; omega)),
    H.below.grown hgr H.below.size (fun k hk => by cases hk; omega), o0, o1, o2, o3⟩, other_cell hgr⟩

theorem GInv.putCheese (H : GInv f g h m bw bm bc gb s0x s0y s1x s1y w wK i j l) (hi : l < 4096) (he : Ce.ok (ce h l)) :
    ∃ w2, (Instr.mapUpdate 51 (.map (some bc)) (.agg #[.int .i64 (h l 0), .int .i64 (h l 1)]) (.bool true)).run Try.prog wK = .ok () w2 ∧ GInv f g h m bw bm bc gb s0x s0y s1x s1y w w2 i j (l + 1) ∧ ∀ x o, x ≠ bc → x < wK.heap.size → w2.cell? ⟨x, o, none⟩ = wK.cell? ⟨x, o, none⟩ := by
  obtain ⟨w2, hrun, hown, hgr⟩ := H.cheese.update law35 Try.underlying51 (by unfold maxLen; omega) (keyOf_cv _ he) (plainElem_bool Try.underlying4 true)
  have hlt := H.lt
  have o0 := H.base; have o1 := H.o1; have o2 := H.o2; have o3 := H.o3
  exact ⟨w2, hrun, ⟨(hgr.block gb hlt (by simp; omega)).trans H.blk, ownsMap_block H.walls (hgr.block _ (by omega) (by simp; omega)), ownsMap_block H.mud (hgr.block _ (by omega) (by simp; omega)), hown,
    H.below.grown hgr H.below.size (fun k hk => by cases hk; omega), o0, o1, o2, o3⟩, other_cell hgr⟩

theorem GInv.cell (H : GInv f g h m bw bm bc gb s0x s0y s1x s1y w wr i j l) (q : Nat) : wr.cell? ⟨gb, q, none⟩ = (gameCells m bw bm bc s0x s0y s1x s1y)[q]? := by
  simp [World.cell?, H.blk]
end

theorem cell_new (w : World) (cs : Array Value) (t : TypeId) (q : Nat) : (w.alloc (.cells cs t)).cell? ⟨w.heap.size, q, none⟩ = cs[q]? := by
  exact World.cell?_alloc_at _ _ _ _ rfl

theorem GInv.wall_step {f g h : Nat → Nat → Int} {m bw bm bc gb : Nat} {s0x s0y s1x s1y : Int} {w wr wK : World} {k j l : Nat} (HG : GInv f g h m bw bm bc gb s0x s0y s1x s1y w wr k j l) (hk : k < 4096) (he : Ed.ok (ed f k))
    (hbK : Below (wr.alloc (.cells #[.int .i64 (f k 0), .int .i64 (f k 1), .int .i64 (f k 2), .int .i64 (f k 3)] 37)).drew.heap.size (wr.alloc (.cells #[.int .i64 (f k 0), .int .i64 (f k 1), .int .i64 (f k 2), .int .i64 (f k 3)] 37)).drew wK) :
    ∃ w2, (Instr.mapUpdate 31 (.map (some bw)) (ev (keyE (f k 0, f k 1, f k 2, f k 3))) (.bool true)).run Try.prog wK = .ok () w2 ∧ GInv f g h m bw bm bc gb s0x s0y s1x s1y w w2 (k + 1) j l ∧
      (wK.cell? ⟨gb, 1, none⟩ = some (.map (some bw)) ∧ wK.cell? ⟨wr.heap.size, 0, none⟩ = some (.int .i64 (f k 0)) ∧ wK.cell? ⟨wr.heap.size, 1, none⟩ = some (.int .i64 (f k 1)) ∧ wK.cell? ⟨wr.heap.size, 2, none⟩ = some (.int .i64 (f k 2)) ∧ wK.cell? ⟨wr.heap.size, 3, none⟩ = some (.int .i64 (f k 3))) ∧
      (w2.cell? ⟨gb, 1, none⟩ = some (.map (some bw)) ∧ w2.cell? ⟨wr.heap.size, 0, none⟩ = some (.int .i64 (f k 0)) ∧ w2.cell? ⟨wr.heap.size, 1, none⟩ = some (.int .i64 (f k 1)) ∧ w2.cell? ⟨wr.heap.size, 2, none⟩ = some (.int .i64 (f k 2)) ∧ w2.cell? ⟨wr.heap.size, 3, none⟩ = some (.int .i64 (f k 3))) := by
  have hb1 : Below wr.heap.size wr wK := ((Below.refl _ _).alloc (Nat.le_refl _) _).drew.trans (hbK.mono (by simp))
  have HK := HG.later hb1
  obtain ⟨w2, hrun, H2, hoth⟩ := HK.putWall hk he
  have hlt := HG.lt; have o1 := HG.o1; have o2 := HG.o2; have o3 := HG.o3
  have hsz : wr.heap.size < wK.heap.size := by have := hbK.size; simp at this; omega
  have hc : ∀ q, wK.cell? ⟨wr.heap.size, q, none⟩ = (#[Value.int .i64 (f k 0), .int .i64 (f k 1), .int .i64 (f k 2), .int .i64 (f k 3)] : Array Value)[q]? := fun q => by
    rw [hbK.cell (p := ⟨wr.heap.size, q, none⟩) (by simp)]
    exact cell_new wr _ _ q
  have hc2 : ∀ q, w2.cell? ⟨wr.heap.size, q, none⟩ = wK.cell? ⟨wr.heap.size, q, none⟩ := fun q => hoth _ q (by omega) hsz
  exact ⟨w2, hrun, H2, ⟨HK.cell 1, hc 0, hc 1, hc 2, hc 3⟩, ⟨H2.cell 1, (hc2 0).trans (hc 0), (hc2 1).trans (hc 1), (hc2 2).trans (hc 2), (hc2 3).trans (hc 3)⟩⟩

theorem GInv.mud_step {f g h : Nat → Nat → Int} {m bw bm bc gb : Nat} {s0x s0y s1x s1y : Int} {w wr wK : World} {k j l : Nat} (HG : GInv f g h m bw bm bc gb s0x s0y s1x s1y w wr j k l) (hk : k < 4096) (he : Ed.ok (ed g k)) (ht : ok (g k 4))
    (hbK : Below (wr.alloc (.cells #[.int .i64 (g k 0), .int .i64 (g k 1), .int .i64 (g k 2), .int .i64 (g k 3), .int .i64 (g k 4)] 66)).drew.heap.size (wr.alloc (.cells #[.int .i64 (g k 0), .int .i64 (g k 1), .int .i64 (g k 2), .int .i64 (g k 3), .int .i64 (g k 4)] 66)).drew wK) :
    ∃ w2, (Instr.mapUpdate 43 (.map (some bm)) (ev (keyE (g k 0, g k 1, g k 2, g k 3))) (.int .i64 (g k 4))).run Try.prog wK = .ok () w2 ∧ GInv f g h m bw bm bc gb s0x s0y s1x s1y w w2 j (k + 1) l ∧
      (wK.cell? ⟨gb, 2, none⟩ = some (.map (some bm)) ∧ wK.cell? ⟨wr.heap.size, 0, none⟩ = some (.int .i64 (g k 0)) ∧ wK.cell? ⟨wr.heap.size, 1, none⟩ = some (.int .i64 (g k 1)) ∧ wK.cell? ⟨wr.heap.size, 2, none⟩ = some (.int .i64 (g k 2)) ∧ wK.cell? ⟨wr.heap.size, 3, none⟩ = some (.int .i64 (g k 3)) ∧ wK.cell? ⟨wr.heap.size, 4, none⟩ = some (.int .i64 (g k 4))) ∧
      (w2.cell? ⟨gb, 2, none⟩ = some (.map (some bm)) ∧ w2.cell? ⟨wr.heap.size, 0, none⟩ = some (.int .i64 (g k 0)) ∧ w2.cell? ⟨wr.heap.size, 1, none⟩ = some (.int .i64 (g k 1)) ∧ w2.cell? ⟨wr.heap.size, 2, none⟩ = some (.int .i64 (g k 2)) ∧ w2.cell? ⟨wr.heap.size, 3, none⟩ = some (.int .i64 (g k 3)) ∧ w2.cell? ⟨wr.heap.size, 4, none⟩ = some (.int .i64 (g k 4))) := by
  have hb1 : Below wr.heap.size wr wK := ((Below.refl _ _).alloc (Nat.le_refl _) _).drew.trans (hbK.mono (by simp))
  have HK := HG.later hb1
  obtain ⟨w2, hrun, H2, hoth⟩ := HK.putMud hk he ht
  have hlt := HG.lt; have o1 := HG.o1; have o2 := HG.o2; have o3 := HG.o3
  have hsz : wr.heap.size < wK.heap.size := by have := hbK.size; simp at this; omega
  have hc : ∀ q, wK.cell? ⟨wr.heap.size, q, none⟩ = (#[Value.int .i64 (g k 0), .int .i64 (g k 1), .int .i64 (g k 2), .int .i64 (g k 3), .int .i64 (g k 4)] : Array Value)[q]? := fun q => by
    rw [hbK.cell (p := ⟨wr.heap.size, q, none⟩) (by simp)]
    exact cell_new wr _ _ q
  have hc2 : ∀ q, w2.cell? ⟨wr.heap.size, q, none⟩ = wK.cell? ⟨wr.heap.size, q, none⟩ := fun q => hoth _ q (by omega) hsz
  exact ⟨w2, hrun, H2, ⟨HK.cell 2, hc 0, hc 1, hc 2, hc 3, hc 4⟩, ⟨H2.cell 2, (hc2 0).trans (hc 0), (hc2 1).trans (hc 1), (hc2 2).trans (hc 2), (hc2 3).trans (hc 3), (hc2 4).trans (hc 4)⟩⟩

theorem GInv.cheese_step {f g h : Nat → Nat → Int} {m bw bm bc gb : Nat} {s0x s0y s1x s1y : Int} {w wr : World} {k j l : Nat} (HG : GInv f g h m bw bm bc gb s0x s0y s1x s1y w wr j l k) (hk : k < 4096) (he : Ce.ok (ce h k)) :
    ∃ w2, (Instr.mapUpdate 51 (.map (some bc)) (.agg #[.int .i64 (h k 0), .int .i64 (h k 1)]) (.bool true)).run Try.prog (wr.alloc (.cells #[.int .i64 (h k 0), .int .i64 (h k 1)] 35)).drew = .ok () w2 ∧ GInv f g h m bw bm bc gb s0x s0y s1x s1y w w2 j l (k + 1) ∧
      (w2.cell? ⟨gb, 3, none⟩ = some (.map (some bc)) ∧ w2.cell? ⟨wr.heap.size, 0, none⟩ = some (.int .i64 (h k 0)) ∧ w2.cell? ⟨wr.heap.size, 1, none⟩ = some (.int .i64 (h k 1))) := by
  have hb1 : Below wr.heap.size wr (wr.alloc (.cells #[.int .i64 (h k 0), .int .i64 (h k 1)] 35)).drew := ((Below.refl _ _).alloc (Nat.le_refl _) _).drew
  obtain ⟨w2, hrun, H2, hoth⟩ := (HG.later hb1).putCheese hk he
  have hlt := HG.lt; have o1 := HG.o1; have o2 := HG.o2; have o3 := HG.o3
  have hc : ∀ q, (wr.alloc (.cells #[.int .i64 (h k 0), .int .i64 (h k 1)] 35)).drew.cell? ⟨wr.heap.size, q, none⟩ = (#[Value.int .i64 (h k 0), .int .i64 (h k 1)] : Array Value)[q]? := fun q => cell_new wr _ _ q
  have hc2 : ∀ q, w2.cell? ⟨wr.heap.size, q, none⟩ = _ := fun q => hoth wr.heap.size q (by omega) (by simp)
  exact ⟨w2, hrun, H2, H2.cell 3, (hc2 0).trans (hc 0), (hc2 1).trans (hc 1)⟩

theorem GInv.frozen {f g h : Nat → Nat → Int} {m bw bm bc gb : Nat} {s0x s0y s1x s1y : Int} {w wr : World} {k j l : Nat} (H : GInv f g h m bw bm bc gb s0x s0y s1x s1y w wr j k l) (q : Nat) : wr.frozen? ⟨gb, q, none⟩ = false := by
  simp [World.frozen?, H.blk]

theorem GInv.setCells {f g h : Nat → Nat → Int} {m bw bm bc gb : Nat} {s0x s0y s1x s1y t0x t0y t1x t1y : Int} {w wr : World} {k j l q : Nat} {x y : Value} (H : GInv f g h m bw bm bc gb s0x s0y s1x s1y w wr j k l)
    (e : ((gameCells m bw bm bc s0x s0y s1x s1y).setIfInBounds q x).setIfInBounds (q + 1) y = gameCells m bw bm bc t0x t0y t1x t1y) :
    GInv f g h m bw bm bc gb t0x t0y t1x t1y w ((wr.setCell ⟨gb, q, none⟩ x).setCell ⟨gb, q + 1, none⟩ y) j k l := by
  have o0 := H.base; have o1 := H.o1; have o2 := H.o2; have o3 := H.o3
  have hne : ∀ b, b ≠ gb → ((wr.setCell ⟨gb, q, none⟩ x).setCell ⟨gb, q + 1, none⟩ y).heap[b]? = wr.heap[b]? := fun b hb => by
    rw [heap_setCell_other _ _ _ _ hb, heap_setCell_other _ _ _ _ hb]
  refine ⟨?_, ownsMap_block H.walls (hne _ (by omega)), ownsMap_block H.mud (hne _ (by omega)), ownsMap_block H.cheese (hne _ (by omega)), (H.below.setCell (by show _ ≤ gb; omega) _).setCell (by show _ ≤ gb; omega) _, o0, o1, o2, o3⟩
  rw [heap_setCell_same _ _ _ _ _ _ (heap_setCell_same _ _ _ _ _ _ H.blk), e]

theorem Try.idx0 (a b c d : Int) (w : World) : (Instr.index 62 (.agg #[.int .i64 a, .int .i64 b, .int .i64 c, .int .i64 d]) (.int .i64 0)).run Try.prog w = .ok (.agg #[.int .i64 a, .int .i64 b]) w := by kernel_rfl
theorem Try.idx1 (a b c d : Int) (w : World) : (Instr.index 62 (.agg #[.int .i64 a, .int .i64 b, .int .i64 c, .int .i64 d]) (.int .i64 1)).run Try.prog w = .ok (.agg #[.int .i64 c, .int .i64 d]) w := by kernel_rfl

set_option maxRecDepth 100000 in
set_option maxHeartbeats 1000000 in
theorem newGame_any (m : Nat) (x0 x1 s0x s0y s1x s1y : Int) (a2 a3 a4 : Option Addr) (n2 c2 n3 c3 n4 c4 : Nat) (f g h : Nat → Nat → Int) (w : World)
    (hm : m < w.heap.size) (k0 : w.cell? ⟨m, 2, none⟩ = some (.slice a2 n2 c2)) (k1 : w.cell? ⟨m, 3, none⟩ = some (.slice a3 n3 c3)) (k2 : w.cell? ⟨m, 4, none⟩ = some (.slice a4 n4 c4))
    (k3 : w.cell? ⟨m, 5, none⟩ = some (.int .i64 s0x)) (k4 : w.cell? ⟨m, 6, none⟩ = some (.int .i64 s0y)) (k5 : w.cell? ⟨m, 7, none⟩ = some (.int .i64 s1x)) (k6 : w.cell? ⟨m, 8, none⟩ = some (.int .i64 s1y))
    (r2 : RowF w a2 n2 4 f) (r3 : RowF w a3 n3 5 g) (r4 : RowF w a4 n4 2 h) (f2 : Fits n2 4 f) (f3 : Fits n3 5 g) (f4 : Fits n4 2 h) (b2 : n2 ≤ 4096) (b3 : n3 ≤ 4096) (b4 : n4 ≤ 4096) :
    Calls Try.prog 7 #[.pointer (some ⟨m, 0, none⟩)] w fun e w' => ∃ bw bm bc gb, e = .returned (.pointer (some ⟨gb, 0, none⟩)) ∧
      w'.heap[gb]? = some (.cells (gameCells m bw bm bc s0x s0y s1x s1y) 72 (0, 0)) ∧
      w'.ownsMap Try.prog 37 (plainElem Try.prog 4) bw n2 (wD f n2) ∧ w'.ownsMap Try.prog 37 (plainElem Try.prog 3) bm n3 (mD g n3) ∧ w'.ownsMap Try.prog 35 (plainElem Try.prog 4) bc n4 (cD h n4) ∧
      Below w.heap.size w w' := by
  have hmm := @run_makeMap Try.prog
  go_enter Try.func7, Try.ntmps7
  go_upto_region 1 with fail
  go_cut [3] from 12 (fun v wx => ∃ bw bm bc gb, v = .pointer (some ⟨gb, 0, none⟩) ∧ GInv f g h m bw bm bc gb 0 0 0 0 w wx 0 0 0)
  case first =>
    go_wp2
    go_meet
    case rel => exact ⟨w.heap.size, w.heap.size + 1, w.heap.size + 1 + 1, w.heap.size + 1 + 1 + 1, rfl, by simpa [gameCells] using heap_alloc_new (((w.alloc (.map #[] 0)).alloc (.map #[] 0)).alloc (.map #[] 0)) _,
        (((World.ownsMap_made w _ _ _).alloc _).alloc _).alloc _, by simpa [mD] using ((World.ownsMap_made (w.alloc (.map #[] 0)) _ _ _).alloc _).alloc _, by simpa [cD] using (World.ownsMap_made ((w.alloc (.map #[] 0)).alloc (.map #[] 0)) _ _ _).alloc _,
        ((((Below.refl _ _).alloc (Nat.le_refl _) _).alloc (by simp) _).alloc (by simp; omega) _).alloc (by simp; omega) _, Nat.le_refl _, by omega, by omega, by omega⟩
  case rest =>
    obtain ⟨bw, bm, bc, gb, rfl, HG⟩ := hcut
    have k0' := (HG.below.cell (p := ⟨m, 2, none⟩) hm).trans k0
    go_wp2
    go_loopw [23] (fun i wr => ∃ k : Nat, i = .int .i64 k ∧ k ≤ n2 ∧ GInv f g h m bw bm bc gb 0 0 0 0 w wr k 0 0) (fun i _ => n2 - (intOf i).toNat)
    case atStart => exact ⟨0, rfl, Nat.zero_le _, HG⟩
    case round =>
      clear HG k0'
      obtain ⟨k, rfl, hk, HG⟩ := hrel
      by_cases hlt : k < n2
      · rcases r2 with r2 | ⟨b, o, rfl, hbl, hc⟩
        · omega
        have hfit := f2 k
        have q0 : wr.cell? ⟨b, o + k * 4, none⟩ = some (.int .i64 (f k 0)) := (HG.below.cell (by exact hbl)).trans (hc k 0 hlt (by omega))
        have q1 : wr.cell? ⟨b, o + k * 4 + 1, none⟩ = some (.int .i64 (f k 1)) := (HG.below.cell (by exact hbl)).trans (hc k 1 hlt (by omega))
        have q2 : wr.cell? ⟨b, o + k * 4 + 2, none⟩ = some (.int .i64 (f k 2)) := (HG.below.cell (by exact hbl)).trans (hc k 2 hlt (by omega))
        have q3 : wr.cell? ⟨b, o + k * 4 + 3, none⟩ = some (.int .i64 (f k 3)) := (HG.below.cell (by exact hbl)).trans (hc k 3 hlt (by omega))
        have c1 : wr.cell? ⟨gb, 1, none⟩ = some (.map (some bw)) := HG.cell 1
        have hgl := HG.lt
        have he : Ed.ok (ed f k) := ⟨hfit 0 hlt (by omega), hfit 1 hlt (by omega), hfit 2 hlt (by omega), hfit 3 hlt (by omega)⟩
        clear hfit hc
        go_wp2
        clear q0 q1 q2 q3
        go_region_held3 (fun w' => w'.cell? ⟨gb, 1, none⟩ = some (.map (some bw)) ∧ w'.cell? ⟨wr.heap.size, 0, none⟩ = some (.int .i64 (f k 0)) ∧ w'.cell? ⟨wr.heap.size, 1, none⟩ = some (.int .i64 (f k 1)) ∧ w'.cell? ⟨wr.heap.size, 2, none⟩ = some (.int .i64 (f k 2)) ∧ w'.cell? ⟨wr.heap.size, 3, none⟩ = some (.int .i64 (f k 3)))
          (first | assumption | go_keep)
          (first | (go_at_call 26; refine (key_any _ _ _ _ _).mono ?_; rintro e wK ⟨rfl, hbK⟩; obtain ⟨w2, hrun, HG2, S1, S2⟩ := HG.wall_step (by omega) he hbK))
        go_wp2
        go_roundw
        case rel => exact ⟨k + 1, by go_num, by omega, HG2⟩
        case measure => simp [intOf]; omega
      · obtain rfl : k = n2 := by omega
        have k1' := (HG.below.cell (p := ⟨m, 3, none⟩) hm).trans k1
        go_wp2
        go_loopw [39] (fun i wr => ∃ k' : Nat, i = .int .i64 k' ∧ k' ≤ n3 ∧ GInv f g h m bw bm bc gb 0 0 0 0 w wr k k' 0) (fun i _ => n3 - (intOf i).toNat)
        case atStart => exact ⟨0, rfl, Nat.zero_le _, HG⟩
        case round =>
          clear HG k1' hlt
          obtain ⟨j, rfl, hj, HG⟩ := hrel
          by_cases hlt : j < n3
          · rcases r3 with r3 | ⟨b, o, rfl, hbl, hc⟩
            · omega
            have hfit := f3 j
            have q0 : wr.cell? ⟨b, o + j * 5, none⟩ = some (.int .i64 (g j 0)) := (HG.below.cell (by exact hbl)).trans (hc j 0 hlt (by omega))
            have q1 : wr.cell? ⟨b, o + j * 5 + 1, none⟩ = some (.int .i64 (g j 1)) := (HG.below.cell (by exact hbl)).trans (hc j 1 hlt (by omega))
            have q2 : wr.cell? ⟨b, o + j * 5 + 2, none⟩ = some (.int .i64 (g j 2)) := (HG.below.cell (by exact hbl)).trans (hc j 2 hlt (by omega))
            have q3 : wr.cell? ⟨b, o + j * 5 + 3, none⟩ = some (.int .i64 (g j 3)) := (HG.below.cell (by exact hbl)).trans (hc j 3 hlt (by omega))
            have q4 : wr.cell? ⟨b, o + j * 5 + 4, none⟩ = some (.int .i64 (g j 4)) := (HG.below.cell (by exact hbl)).trans (hc j 4 hlt (by omega))
            have c1 : wr.cell? ⟨gb, 2, none⟩ = some (.map (some bm)) := HG.cell 2
            have hgl := HG.lt
            have he : Ed.ok (ed g j) := ⟨hfit 0 hlt (by omega), hfit 1 hlt (by omega), hfit 2 hlt (by omega), hfit 3 hlt (by omega)⟩
            have ht : ok (g j 4) := hfit 4 hlt (by omega)
            clear hfit hc
            go_wp2
            clear q0 q1 q2 q3 q4
            go_region_held3 (fun w' => w'.cell? ⟨gb, 2, none⟩ = some (.map (some bm)) ∧ w'.cell? ⟨wr.heap.size, 0, none⟩ = some (.int .i64 (g j 0)) ∧ w'.cell? ⟨wr.heap.size, 1, none⟩ = some (.int .i64 (g j 1)) ∧ w'.cell? ⟨wr.heap.size, 2, none⟩ = some (.int .i64 (g j 2)) ∧ w'.cell? ⟨wr.heap.size, 3, none⟩ = some (.int .i64 (g j 3)) ∧ w'.cell? ⟨wr.heap.size, 4, none⟩ = some (.int .i64 (g j 4)))
              (first | assumption | go_keep)
              (first | (go_at_call 26; refine (key_any _ _ _ _ _).mono ?_; rintro e wK ⟨rfl, hbK⟩; obtain ⟨w2, hrun, HG2, S1, S2⟩ := HG.mud_step (by omega) he ht hbK))
            go_wp2
            go_roundw
            case rel => exact ⟨j + 1, by go_num, by omega, HG2⟩
            case measure => simp [intOf]; omega
          · obtain rfl : j = n3 := by omega
            have k2' := (HG.below.cell (p := ⟨m, 4, none⟩) hm).trans k2
            go_wp2
            go_loopw [58] (fun i wr => ∃ k' : Nat, i = .int .i64 k' ∧ k' ≤ n4 ∧ GInv f g h m bw bm bc gb 0 0 0 0 w wr k j k') (fun i _ => n4 - (intOf i).toNat)
            case atStart => exact ⟨0, rfl, Nat.zero_le _, HG⟩
            case round =>
              clear HG k2' hlt
              obtain ⟨l, rfl, hl, HG⟩ := hrel
              by_cases hlt : l < n4
              · rcases r4 with r4 | ⟨b, o, rfl, hbl, hc⟩
                · omega
                have hfit := f4 l
                have q0 : wr.cell? ⟨b, o + l * 2, none⟩ = some (.int .i64 (h l 0)) := (HG.below.cell (by exact hbl)).trans (hc l 0 hlt (by omega))
                have q1 : wr.cell? ⟨b, o + l * 2 + 1, none⟩ = some (.int .i64 (h l 1)) := (HG.below.cell (by exact hbl)).trans (hc l 1 hlt (by omega))
                have c1 : wr.cell? ⟨gb, 3, none⟩ = some (.map (some bc)) := HG.cell 3
                have hgl := HG.lt
                have he : Ce.ok (ce h l) := ⟨hfit 0 hlt (by omega), hfit 1 hlt (by omega)⟩
                clear hfit hc
                obtain ⟨w2, hrun, HG2, S2⟩ := HG.cheese_step (by omega) he
                go_wp2
                clear q0 q1
                go_region_held3 (fun w' => w'.cell? ⟨gb, 3, none⟩ = some (.map (some bc)) ∧ w'.cell? ⟨wr.heap.size, 0, none⟩ = some (.int .i64 (h l 0)) ∧ w'.cell? ⟨wr.heap.size, 1, none⟩ = some (.int .i64 (h l 1)))
                  (first | assumption | go_keep) (fail)
                go_wp2
                go_roundw
                case rel => exact ⟨l + 1, by go_num, by omega, HG2⟩
                case measure => simp [intOf]; omega
              · obtain rfl : l = n4 := by omega
                have k3' := (HG.below.cell (p := ⟨m, 5, none⟩) hm).trans k3
                have k4' := (HG.below.cell (p := ⟨m, 6, none⟩) hm).trans k4
                have k5' := (HG.below.cell (p := ⟨m, 7, none⟩) hm).trans k5
                have k6' := (HG.below.cell (p := ⟨m, 8, none⟩) hm).trans k6
                go_wp2
                go_loopw [72] (fun i wr => ∃ k' : Nat, i = .int .i64 k' ∧ k' ≤ 2 ∧ GInv f g h m bw bm bc gb (if 0 < k' then s0x else 0) (if 0 < k' then s0y else 0) (if 1 < k' then s1x else 0) (if 1 < k' then s1y else 0) w wr k j l) (fun i _ => 2 - (intOf i).toNat)
                case atStart => exact ⟨0, rfl, Nat.zero_le _, HG⟩
                case round =>
                  clear HG k3' k4' k5' k6' hlt
                  obtain ⟨p, rfl, hp, HG⟩ := hrel
                  have i0 := Try.idx0 s0x s0y s1x s1y
                  have i1 := Try.idx1 s0x s0y s1x s1y
                  match p, hp with
                  | 0, _ =>
                    simp only [Nat.lt_irrefl, Nat.not_lt_zero, if_false] at HG
                    have d0 := HG.cell 4
                    have d1 := HG.cell 5
                    have e0 := HG.frozen 4
                    have e1 := HG.frozen 5
                    have hgl := HG.lt
                    simp only [gameCells] at d0 d1
                    go_wp2
                    go_region
                    go_wp2
                    go_roundw
                    case rel =>
                      refine ⟨1, rfl, by omega, ?_⟩
                      show GInv f g h m bw bm bc gb s0x s0y 0 0 w _ k j l
                      exact (HG.setCells (q := 4) rfl).later (((Below.refl _ _).alloc (Nat.le_refl _) _).drew)
                    case measure => simp [intOf]
                  | 1, _ =>
                    simp only [Nat.lt_irrefl, Nat.zero_lt_succ, if_true, if_false] at HG
                    have d0 := HG.cell 9
                    have d1 := HG.cell 10
                    have e0 := HG.frozen 9
                    have e1 := HG.frozen 10
                    have hgl := HG.lt
                    simp only [gameCells] at d0 d1
                    go_wp2
                    go_region
                    go_wp2
                    go_roundw
                    case rel =>
                      refine ⟨2, rfl, by omega, ?_⟩
                      show GInv f g h m bw bm bc gb s0x s0y s1x s1y w _ k j l
                      exact (HG.setCells (q := 9) rfl).later (((Below.refl _ _).alloc (Nat.le_refl _) _).drew)
                    case measure => simp [intOf]
                  | 2, _ =>
                    simp only [Nat.lt_add_one, Nat.zero_lt_succ, if_true] at HG
                    go_wp2
                    go_ret
                    exact ⟨bw, bm, bc, gb, rfl, HG.blk, HG.walls, HG.mud, HG.cheese, HG.below⟩
end Go.Proofs.Qxb6630866a
