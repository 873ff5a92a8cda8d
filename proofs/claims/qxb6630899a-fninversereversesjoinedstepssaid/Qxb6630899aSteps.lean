/-
  Rows of steps in memory; the walk of toEntry (7). Seat b6630899a.
-/
import Derived.Test.Qxb6630899aLeaf
import Derived.Deep.RegionHeld3
import Derived.Deep.DrawnRows
import Derived.Deep.MidRow
import Derived.Deep.Cut
namespace Go.Proofs.Qxb6630899a
open Go.RowKit
set_option linter.unusedVariables false
attribute [local go_sem ↓] Go.wp_at_zero Go.wp_at_succ

/-- The three cells of a step. -/
def cellOf (s : St) : Nat → Value
  | 0 => .string s.1
  | 1 => .slice s.2.1.1 s.2.1.2.1 s.2.1.2.2
  | _ => .slice s.2.2.1 s.2.2.2.1 s.2.2.2.2

/-- The steps L lie from an address on. -/
def RowL (w : World) (a : Option Addr) (L : List St) : Prop :=
  L = [] ∨ ∃ b o, a = some ⟨b, o, none⟩ ∧ b < w.heap.size ∧ ∀ i j, i < L.length → j < 3 → w.cell? ⟨b, o + i * 3 + j, none⟩ = some (cellOf (L.getD i dSt) j)

theorem RowL.later {w w' : World} {a : Option Addr} {L : List St} (h : RowL w a L) (hb : Below w.heap.size w w') : RowL w' a L := by
  rcases h with h | ⟨b, o, e, hlt, hc⟩
  · exact .inl h
  · exact .inr ⟨b, o, e, Nat.lt_of_lt_of_le hlt hb.size, fun i j hi hj => (hb.cell (p := ⟨b, o + i * 3 + j, none⟩) hlt).trans (hc i j hi hj)⟩

theorem cell_kept {w w' : World} (hb : Below w.heap.size w w') {b q : Nat} {v : Value} (h : w.cell? ⟨b, q, none⟩ = some v) : w'.cell? ⟨b, q, none⟩ = some v :=
  (hb.cell (p := ⟨b, q, none⟩) (World.block_lt_of_cell? w ⟨b, q, none⟩ h)).trans h

theorem cell_new (w : World) (cs : Array Value) (t : TypeId) (q : Nat) : (w.alloc (.cells cs t)).cell? ⟨w.heap.size, q, none⟩ = cs[q]? := World.cell?_alloc_at _ _ _ _ rfl

/-- A new row that is being filled; c steps of it are done. -/
structure TInv (wc wr : World) (r n : Nat) (L : List St) (c : Nat) : Prop where
  below : Below wc.heap.size wc wr
  row : ∃ cur, wr.heap[r]? = some (.cells cur 36 (0, 0)) ∧ cur.size = n * 3 ∧ ∀ i j, i < c → j < 3 → cur[i * 3 + j]? = some (cellOf (L.getD i dSt) j)
  hr : wc.heap.size ≤ r

section
variable {wc wr wK : World} {r n : Nat} {L : List St} {c : Nat}

theorem TInv.lt (H : TInv wc wr r n L c) : r < wr.heap.size := by
  obtain ⟨cur, h, _⟩ := H.row
  exact (Array.getElem?_eq_some_iff.1 h).1

theorem TInv.drew (H : TInv wc wr r n L c) : TInv wc wr.drew r n L c := ⟨H.below.drew, H.row, H.hr⟩

theorem TInv.there (H : TInv wc wr r n L c) (hc : c < n) : wr.there r (c * 3) 3 := by
  obtain ⟨cur, h1, h2, h3⟩ := H.row
  intro j hj
  constructor
  · simp [World.cell?, h1]; omega
  · simp [World.frozen?, h1]

theorem TInv.put (H : TInv wc wr r n L c) (hc : c < n) : TInv wc (wr.setCells r (c * 3) [cellOf (L.getD c dSt) 0, cellOf (L.getD c dSt) 1, cellOf (L.getD c dSt) 2]) r n L (c + 1) := by
  obtain ⟨cur, h1, h2, h3⟩ := H.row
  have hr := H.hr
  have e1 := heap_setCell_same _ _ (c * 3) _ _ (cellOf (L.getD c dSt) 0) h1
  have e2 := heap_setCell_same _ _ (c * 3 + 1) _ _ (cellOf (L.getD c dSt) 1) e1
  have e3 := heap_setCell_same _ _ (c * 3 + 1 + 1) _ _ (cellOf (L.getD c dSt) 2) e2
  refine ⟨((H.below.setCell (by exact hr) _).setCell (by exact hr) _).setCell (by exact hr) _, ⟨_, e3, by simpa using h2, ?_⟩, hr⟩
  intro i j hi hj
  by_cases hic : i = c
  · subst hic
    have hb0 : i * 3 < cur.size := by omega
    have hb1 : i * 3 + 1 < cur.size := by omega
    have hb2 : i * 3 + 1 + 1 < cur.size := by omega
    match j, hj with
    | 0, _ =>
      simp only [Nat.add_zero]
      rw [Array.getElem?_setIfInBounds_ne (by omega), Array.getElem?_setIfInBounds_ne (by omega), Array.getElem?_setIfInBounds_self_of_lt (by simpa using hb0)]
    | 1, _ =>
      rw [Array.getElem?_setIfInBounds_ne (by omega), Array.getElem?_setIfInBounds_self_of_lt (by simpa using hb1)]
    | 2, _ =>
      rw [Array.getElem?_setIfInBounds_self_of_lt (by simpa using hb2)]
  · rw [Array.getElem?_setIfInBounds_ne (by omega), Array.getElem?_setIfInBounds_ne (by omega), Array.getElem?_setIfInBounds_ne (by omega)]
    exact h3 i j (by omega) hj

theorem TInv.rowL (H : TInv wc wr r n L n) (hn : L.length = n) : RowL wr (some ⟨r, 0, none⟩) L := by
  obtain ⟨cur, h1, h2, h3⟩ := H.row
  refine .inr ⟨r, 0, rfl, H.lt, ?_⟩
  intro i j hi hj
  rw [Nat.zero_add]
  simp [World.cell?, h1, h3 i j (by omega) hj]

theorem tinv_start {w1 : World} {z : List Value} (hown : w1.ownsRow wc.heap.size 36 3 (.slice (some ⟨wc.heap.size, 0, none⟩) n n) n z) (hgrow : wc.grownBy w1 none) : TInv wc w1 wc.heap.size n L 0 := by
  obtain ⟨hx, h | ⟨g', cap, cur, e, hbg, hg, hnc, hcm, hsz, htk⟩⟩ := hown
  · simp at h
  · simp only [Value.slice.injEq, Option.some.injEq, Addr.mk.injEq] at e
    obtain ⟨⟨rfl, -⟩, -, rfl⟩ := e
    exact ⟨(Below.refl _ _).grown hgrow (Nat.le_refl _) (fun k h => by cases h), ⟨cur, hg, hsz, fun i j hi => absurd hi (by omega)⟩, Nat.le_refl _⟩
end

theorem cell_setCells_far (b : Nat) : ∀ (vs : List Value) (o : Nat) (w : World) (a : Addr), b ≠ a.block → (w.setCells b o vs).cell? a = w.cell? a
  | [], _, _, _, _ => rfl
  | v :: r, o, w, a, h => by
    rw [World.setCells, cell_setCells_far b r (o + 1) _ a h]
    exact World.cell?_setCell_far _ _ _ _ h

theorem Try.sz36 : (Try.prog.info? 36).map (·.size) = some 3 := by kernel_rfl
def sto36 (p v : Value) : Sem Unit := Instr.storeAt 36 p v
theorem sto36_eq (p v : Value) : Instr.storeAt 36 p v = sto36 p v := rfl
theorem run_sto36 (w : World) (b o : Nat) (s : ByteArray) (fa ta : Option Addr) (fn fc tn tc : Nat) (ht : w.there b o 3) :
    (sto36 (.pointer (some ⟨b, o, none⟩)) (.agg #[.string s, .slice fa fn fc, .slice ta tn tc])).run Try.prog w = .ok () (w.setCells b o [.string s, .slice fa fn fc, .slice ta tn tc]) :=
  run_storeAt_mid (P := Try.prog) w b o 36 #[.string s, .slice fa fn fc, .slice ta tn tc] ht Try.sz36 (by simp [Value.oneCell'])

theorem Try.info36 : (Try.prog.info? 36).map (fun i => (i.zero, i.size, i.bytes)) = some (some (.agg #[.string ⟨#[]⟩, .slice none 0 0, .slice none 0 0]), 3, 64) := by kernel_rfl

theorem RowL.set {w : World} {r : Nat} {L : List St} (h : RowL w (some ⟨r, 0, none⟩) L) {x : Addr} (hne : x.block ≠ r) (v : Value) : RowL (w.setCell x v) (some ⟨r, 0, none⟩) L := by
  rcases h with h | ⟨b, o, e, hlt, hc⟩
  · exact .inl h
  · cases e
    exact .inr ⟨r, 0, rfl, by simpa using hlt, fun i j hi hj => (World.cell?_setCell_far _ _ _ _ hne).trans (hc i j hi hj)⟩

/-- An entry's five cells. -/
def entCells (c1 c2 c3 c4 : ByteArray) (v : Value) : Array Value := #[.string c1, .string c2, .string c3, .string c4, v]

attribute [local go_sem ↓] sto36_eq
attribute [local go_sem] run_sto36

set_option maxRecDepth 100000 in
set_option maxHeartbeats 1000000 in
theorem toEntry_any (c1 c2 c3 c4 : ByteArray) (a : Option Addr) (n c : Nat) (L : List St) (w : World) (hl : L.length = n) (hr : RowL w a L) (ha : a = none → n = 0) (hn : n ≤ 1048576) :
    Calls Try.prog 7 #[.string c1, .string c2, .string c3, .string c4, .slice a n c] w fun e w' =>
      ∃ a' c', e = .returned (.agg (entCells c1 c2 c3 c4 (.slice a' n c'))) ∧ RowL w' a' L ∧ Below w.heap.size w w' := by
  obtain ⟨i0, hi0, hi1, hi2, hi3⟩ := info_parts Try.info36
  have heq := fun (w : World) (a : Option Addr) (n c : Nat) => Lib.run_eql_slice_nil (P := Try.prog) w 22 32 a n c 0 0 Try.underlying22
  go_enter Try.func7, Try.ntmps7
  cases a with
  | none =>
    obtain rfl := ha rfl
    have hL : L = [] := List.eq_nil_of_length_eq_zero hl
    subst hL
    go_wp2
    exact bodyPost_ret (v := .agg (entCells c1 c2 c3 c4 (.slice none 0 0))) (by simp [results, Try.results7, go_sem, entCells]) rfl ⟨none, ⟨0, rfl⟩, .inl rfl, ((Below.refl _ _).alloc (Nat.le_refl _) _).alloc (by simp) _⟩
  | some ad =>
    go_upto_region 1 with fail
    go_cut [10, 11] from 14 (fun v u wx => ∃ rb eb, v = .pointer (some ⟨rb, 0, none⟩) ∧ u = .pointer (some ⟨eb, 0, none⟩) ∧ wx.heap[rb]? = some (.cells (entCells ⟨#[]⟩ ⟨#[]⟩ ⟨#[]⟩ ⟨#[]⟩ (.slice none 0 0)) 26 (0, 0)) ∧
        wx.heap[eb]? = some (.cells (entCells c1 c2 c3 c4 (.slice none 0 0)) 26 (0, 0)) ∧ w.heap.size ≤ rb ∧ rb < eb ∧ Below w.heap.size w wx)
    case first =>
      go_wp2
      go_meet
      case rel => exact ⟨w.heap.size, w.heap.size + 1, rfl, rfl, (Below.heap_alloc (w.alloc _) _ _ (by simp)).trans (heap_alloc_new w _), by simpa [entCells] using heap_alloc_new (w.alloc _) _, Nat.le_refl _, by omega, ((Below.refl _ _).alloc (Nat.le_refl _) _).alloc (by simp) _⟩
    case rest =>
      obtain ⟨rb, eb, rfl, rfl, hrb, heb, hrw, hre, hbel⟩ := hcut
      have hr' := hr.later hbel
      have hel : eb < wc.heap.size := (Array.getElem?_eq_some_iff.1 heb).1
      clear hr
      go_wp2_with (at_make; refine wpList_make_full _ rfl _ _ 24 rfl wc.heap.size 36 i0 _ 3 Try.underlying24 hi0 hi1 hi2 _ _ _ _ n rfl rfl rfl rfl ?c1 ?c2 ?c3 ?_)
      case c1 => rw [hi3]; omega
      case c2 => unfold maxLen; omega
      case c3 => exact Nat.le_refl _
      intro w1 hown hgrow
      have HT := tinv_start (L := L) hown hgrow
      clear hown hgrow
      go_wp2
      go_loopw [13] (fun i wr => ∃ k : Nat, i = .int .i64 k ∧ k ≤ n ∧ TInv wc wr wc.heap.size n L k) (fun i _ => n - (intOf i).toNat)
      case atStart => exact ⟨0, rfl, Nat.zero_le _, HT⟩
      case round =>
        clear HT
        obtain ⟨k, rfl, hk, HT⟩ := hrel
        by_cases hlt : k < n
        · rcases hr' with hr' | ⟨b, o, e, hbl, hc⟩
          · subst hr'; simp at hl; omega
          cases e
          have hcx : ∀ q, wr.cell? ⟨b, q, none⟩ = wc.cell? ⟨b, q, none⟩ := fun q => HT.below.cell (p := ⟨b, q, none⟩) hbl
          have q0 := (hcx _).trans (hc k 0 (by omega) (by omega))
          have q1 := (hcx _).trans (hc k 1 (by omega) (by omega))
          have q2 := (hcx _).trans (hc k 2 (by omega) (by omega))
          have HP := HT.drew.put hlt
          generalize hs : L.getD k dSt = s at q0 q1 q2 HP
          obtain ⟨op, ⟨fa, fn, fc⟩, ⟨ta, tn, tc⟩⟩ := s
          simp only [cellOf, Nat.add_zero] at q0 q1 q2 HP
          have ht := HT.drew.there hlt
          have hi1' : (0 : Int) ≤ (k : Int) := by omega
          have hi2' : (k : Int) < (n : Int) := by omega
          have ne1 : wc.heap.size ≠ b := by omega
          have Hs : Hid (L.getD k dSt = (op, (fa, fn, fc), (ta, tn, tc))) := hs
          clear hcx hc hs
          go_wp2
          go_region_held3 (fun w' => w'.cell? ⟨b, o + k * 3, none⟩ = some (.string op) ∧ w'.cell? ⟨b, o + k * 3 + 1, none⟩ = some (.slice fa fn fc) ∧ w'.cell? ⟨b, o + k * 3 + 2, none⟩ = some (.slice ta tn tc))
            (simp [*, cell_setCells_far]) (fail)
          go_wp2
          go_roundw
          case rel => exact ⟨k + 1, by go_num, by omega, HP⟩
          case measure => simp [intOf]; omega
        · obtain rfl : k = n := by omega
          have hrow := HT.rowL hl
          have g1 : ∀ q, wr.cell? ⟨eb, q, none⟩ = (entCells c1 c2 c3 c4 (.slice none 0 0))[q]? := fun q => by simp [World.cell?, (HT.below.block eb hel).trans heb]
          have g2 : ∀ q, wr.frozen? ⟨eb, q, none⟩ = false := fun q => by simp [World.frozen?, (HT.below.block eb hel).trans heb]
          have g3 : ∀ q, wr.cell? ⟨rb, q, none⟩ = (entCells ⟨#[]⟩ ⟨#[]⟩ ⟨#[]⟩ ⟨#[]⟩ (.slice none 0 0))[q]? := fun q => by simp [World.cell?, (HT.below.block rb (by omega)).trans hrb]
          have g4 : ∀ q, wr.frozen? ⟨rb, q, none⟩ = false := fun q => by simp [World.frozen?, (HT.below.block rb (by omega)).trans hrb]
          have ne1 : rb ≠ eb := by omega
          simp only [entCells] at g1 g3
          go_wp2
          refine bodyPost_ret (v := .agg (entCells c1 c2 c3 c4 (.slice (some ⟨wc.heap.size, 0, none⟩) k k))) (by simp [results, Try.results7, go_sem, entCells, g3]) rfl ⟨some ⟨wc.heap.size, 0, none⟩, k, rfl, ?_, ?_⟩
          · have n1 : eb ≠ wc.heap.size := by omega
            have n2 : rb ≠ wc.heap.size := by omega
            exact (((((hrow.set (by exact n1) _).set (by exact n2) _).set (by exact n2) _).set (by exact n2) _).set (by exact n2) _).set (by exact n2) _
          · have h1 : w.heap.size ≤ eb := by omega
            have h0 : Below w.heap.size w wr := hbel.trans (HT.below.mono hbel.size)
            exact (((((h0.setCell (by exact h1) _).setCell (by exact hrw) _).setCell (by exact hrw) _).setCell (by exact hrw) _).setCell (by exact hrw) _).setCell (by exact hrw) _
end Go.Proofs.Qxb6630899a
