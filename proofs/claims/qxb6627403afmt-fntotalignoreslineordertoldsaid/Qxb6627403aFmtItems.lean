/-
  The walks of the two zzBytes (5, 10), namesFit (6) and toItems (7). Seat b6627403aF.
-/
import Derived.Test.Qxb6627403aFmtLeaf
namespace Go.Proofs.Qxb6627403aFmt
open Go.RowKit
set_option linter.unusedVariables false
attribute [local go_sem ↓] Go.wp_at_zero Go.wp_at_succ

set_option maxRecDepth 100000 in
set_option maxHeartbeats 1000000 in
theorem zz5_any (x0 x1 z : Int) (a : Option Addr) (n c : Nat) (L : List It) (w : World) (hl : L.length = n) (hr : RowL w a L) :
    Calls Tryf.prog 5 #[.int .i64 x0, .int .i64 x1, .slice a n c, .int .i64 z] w fun e w' => ∃ x, e = .returned (.bool x) ∧ w = w' := by
  go_enter Tryf.func5, Tryf.ntmps5
  go_wp2
  rotate_right
  · have hnn : n ≤ 1048576 := by omega
    go_loopw [9, 10] (fun z i wr => ∃ (x : Int) (k : Nat), z = .int .i64 x ∧ i = .int .i64 k ∧ k ≤ n ∧ wr = w) (fun _ i _ => n - (intOf i).toNat)
    case atStart => exact ⟨_, 0, rfl, rfl, Nat.zero_le _, rfl⟩
    case round =>
      obtain ⟨x, k, rfl, rfl, hk, rfl⟩ := hrel
      by_cases hlt : k < n
      · rcases hr with hr | ⟨b, o, e, hbl, hc⟩
        · subst hr; simp at hl; omega
        subst e
        have q1 := hc k 1 (by omega) (by omega)
        generalize L.getD k dIt = s at q1
        obtain ⟨s0, s1, v, s3⟩ := s
        simp only [cellOf] at q1
        have hi1' : (0 : Int) ≤ (k : Int) := by omega
        have hi2' : (k : Int) < (n : Int) := by omega
        clear hc
        go_wp2
        rotate_right
        · go_roundw
          case rel => exact ⟨_, k + 1, rfl, by go_num, by omega, trivial⟩
          case measure => simp [intOf]; omega
        all_goals (go_ret; exact ⟨false, rfl, rfl⟩)
      · obtain rfl : k = n := by omega
        go_wp2
        go_ret
        exact ⟨_, rfl, rfl⟩
  all_goals (go_ret; exact ⟨false, rfl, rfl⟩)

set_option maxRecDepth 100000 in
set_option maxHeartbeats 1000000 in
theorem zz10_any (x0 x1 z y : Int) (a : Option Addr) (n c : Nat) (L : List It) (w : World) (hl : L.length = n) (hr : RowL w a L) :
    Calls Tryf.prog 10 #[.int .i64 x0, .int .i64 x1, .slice a n c, .int .i64 z, .int .i64 y] w fun e w' => ∃ x, e = .returned (.bool x) ∧ w = w' := by
  go_enter Tryf.func10, Tryf.ntmps10
  go_wp2
  rotate_right
  · have hnn : n ≤ 1048576 := by omega
    go_loopw [11, 12] (fun z i wr => ∃ (x : Int) (k : Nat), z = .int .i64 x ∧ i = .int .i64 k ∧ k ≤ n ∧ wr = w) (fun _ i _ => n - (intOf i).toNat)
    case atStart => exact ⟨_, 0, rfl, rfl, Nat.zero_le _, rfl⟩
    case round =>
      obtain ⟨x, k, rfl, rfl, hk, rfl⟩ := hrel
      by_cases hlt : k < n
      · rcases hr with hr | ⟨b, o, e, hbl, hc⟩
        · subst hr; simp at hl; omega
        subst e
        have q1 := hc k 1 (by omega) (by omega)
        generalize L.getD k dIt = s at q1
        obtain ⟨s0, s1, v, s3⟩ := s
        simp only [cellOf] at q1
        have hi1' : (0 : Int) ≤ (k : Int) := by omega
        have hi2' : (k : Int) < (n : Int) := by omega
        clear hc
        go_wp2
        rotate_right
        · go_roundw
          case rel => exact ⟨_, k + 1, rfl, by go_num, by omega, trivial⟩
          case measure => simp [intOf]; omega
        all_goals (go_ret; exact ⟨false, rfl, rfl⟩)
      · obtain rfl : k = n := by omega
        go_wp2
        go_ret
        exact ⟨_, rfl, rfl⟩
  all_goals (go_ret; exact ⟨false, rfl, rfl⟩)

set_option maxRecDepth 100000 in
set_option maxHeartbeats 1000000 in
theorem names_any (a : Option Addr) (n c : Nat) (L : List It) (w : World) (hl : L.length = n) (hr : RowL w a L) (hn : n ≤ 16384) :
    Calls Tryf.prog 6 #[.slice a n c] w fun e w' => ∃ x, e = .returned (.bool x) ∧ w = w' := by
  go_enter Tryf.func6, Tryf.ntmps6
  go_wp2
  rotate_right
  · have hnn : n ≤ 1048576 := by omega
    go_loopw [3, 4] (fun z i wr => ∃ (x : Int) (k : Nat), z = .int .i64 x ∧ i = .int .i64 k ∧ k ≤ n ∧ wr = w) (fun _ i _ => n - (intOf i).toNat)
    case atStart => exact ⟨_, 0, rfl, rfl, Nat.zero_le _, rfl⟩
    case round =>
      obtain ⟨x, k, rfl, rfl, hk, rfl⟩ := hrel
      by_cases hlt : k < n
      · rcases hr with hr | ⟨b, o, e, hbl, hc⟩
        · subst hr; simp at hl; omega
        subst e
        have q1 := hc k 1 (by omega) (by omega)
        generalize L.getD k dIt = s at q1
        obtain ⟨s0, s1, v, s3⟩ := s
        simp only [cellOf] at q1
        have hi1' : (0 : Int) ≤ (k : Int) := by omega
        have hi2' : (k : Int) < (n : Int) := by omega
        clear hc
        go_wp2
        rotate_right
        · go_roundw
          case rel => exact ⟨_, k + 1, rfl, by go_num, by omega, trivial⟩
          case measure => simp [intOf]; omega
        all_goals (go_ret; exact ⟨false, rfl, rfl⟩)
      · obtain rfl : k = n := by omega
        go_wp2
        go_ret
        exact ⟨_, rfl, rfl⟩
  all_goals (go_ret; exact ⟨false, rfl, rfl⟩)

theorem cell_new (w : World) (cs : Array Value) (t : TypeId) (q : Nat) : (w.alloc (.cells cs t)).cell? ⟨w.heap.size, q, none⟩ = cs[q]? := World.cell?_alloc_at _ _ _ _ rfl

/-- A new row that is being filled; c items of it are done. -/
structure TInv (wc wr : World) (r n : Nat) (L : List It) (c : Nat) : Prop where
  below : Below wc.heap.size wc wr
  row : ∃ cur, wr.heap[r]? = some (.cells cur 37 (0, 0)) ∧ cur.size = n * 4 ∧ ∀ i j, i < c → j < 4 → cur[i * 4 + j]? = some (cellOf (L.getD i dIt) j)
  hr : wc.heap.size ≤ r

section
variable {wc wr wK : World} {r n : Nat} {L : List It} {c : Nat}

theorem TInv.lt (H : TInv wc wr r n L c) : r < wr.heap.size := by
  obtain ⟨cur, h, _⟩ := H.row
  exact (Array.getElem?_eq_some_iff.1 h).1

theorem TInv.drew (H : TInv wc wr r n L c) : TInv wc wr.drew r n L c := ⟨H.below.drew, H.row, H.hr⟩

theorem TInv.there (H : TInv wc wr r n L c) (hc : c < n) : wr.there r (c * 4) 4 := by
  obtain ⟨cur, h1, h2, h3⟩ := H.row
  intro j hj
  constructor
  · simp [World.cell?, h1]; omega
  · simp [World.frozen?, h1]

theorem TInv.put (H : TInv wc wr r n L c) (hc : c < n) : TInv wc (wr.setCells r (c * 4) [cellOf (L.getD c dIt) 0, cellOf (L.getD c dIt) 1, cellOf (L.getD c dIt) 2, cellOf (L.getD c dIt) 3]) r n L (c + 1) := by
  obtain ⟨cur, h1, h2, h3⟩ := H.row
  have hr := H.hr
  have e1 := heap_setCell_same _ _ (c * 4) _ _ (cellOf (L.getD c dIt) 0) h1
  have e2 := heap_setCell_same _ _ (c * 4 + 1) _ _ (cellOf (L.getD c dIt) 1) e1
  have e3 := heap_setCell_same _ _ (c * 4 + 1 + 1) _ _ (cellOf (L.getD c dIt) 2) e2
  have e4 := heap_setCell_same _ _ (c * 4 + 1 + 1 + 1) _ _ (cellOf (L.getD c dIt) 3) e3
  refine ⟨(((H.below.setCell (by exact hr) _).setCell (by exact hr) _).setCell (by exact hr) _).setCell (by exact hr) _, ⟨_, e4, by simpa using h2, ?_⟩, hr⟩
  intro i j hi hj
  by_cases hic : i = c
  · subst hic
    have hb0 : i * 4 < cur.size := by omega
    have hb1 : i * 4 + 1 < cur.size := by omega
    have hb2 : i * 4 + 1 + 1 < cur.size := by omega
    have hb3 : i * 4 + 1 + 1 + 1 < cur.size := by omega
    match j, hj with
    | 0, _ =>
      simp only [Nat.add_zero]
      rw [Array.getElem?_setIfInBounds_ne (by omega), Array.getElem?_setIfInBounds_ne (by omega), Array.getElem?_setIfInBounds_ne (by omega), Array.getElem?_setIfInBounds_self_of_lt (by simpa using hb0)]
    | 1, _ =>
      rw [Array.getElem?_setIfInBounds_ne (by omega), Array.getElem?_setIfInBounds_ne (by omega), Array.getElem?_setIfInBounds_self_of_lt (by simpa using hb1)]
    | 2, _ =>
      rw [Array.getElem?_setIfInBounds_ne (by omega), Array.getElem?_setIfInBounds_self_of_lt (by simpa using hb2)]
    | 3, _ =>
      rw [Array.getElem?_setIfInBounds_self_of_lt (by simpa using hb3)]
  · rw [Array.getElem?_setIfInBounds_ne (by omega), Array.getElem?_setIfInBounds_ne (by omega), Array.getElem?_setIfInBounds_ne (by omega), Array.getElem?_setIfInBounds_ne (by omega)]
    exact h3 i j (by omega) hj

theorem TInv.rowL (H : TInv wc wr r n L n) (hn : L.length = n) : RowL wr (some ⟨r, 0, none⟩) L := by
  obtain ⟨cur, h1, h2, h3⟩ := H.row
  refine .inr ⟨r, 0, rfl, H.lt, ?_⟩
  intro i j hi hj
  rw [Nat.zero_add]
  simp [World.cell?, h1, h3 i j (by omega) hj]

theorem tinv_start {w1 : World} {z : List Value} (hown : w1.ownsRow wc.heap.size 37 4 (.slice (some ⟨wc.heap.size, 0, none⟩) n n) n z) (hgrow : wc.grownBy w1 none) : TInv wc w1 wc.heap.size n L 0 := by
  obtain ⟨hx, h | ⟨g', cap, cur, e, hbg, hg, hnc, hcm, hsz, htk⟩⟩ := hown
  · simp at h
  · simp only [Value.slice.injEq, Option.some.injEq, Addr.mk.injEq] at e
    obtain ⟨⟨rfl, -⟩, -, rfl⟩ := e
    exact ⟨(Below.refl _ _).grown hgrow (Nat.le_refl _) (fun k h => by cases h), ⟨cur, hg, hsz, fun i j hi => absurd hi (by omega)⟩, Nat.le_refl _⟩
end

theorem cell_setCells_far (b : Nat) : ∀ (vs : List Value) (o : Nat) (w : World) (a : Addr), b ≠ a.block → (w.setCells b o vs).cell? a = w.cell? a
  | [], _, _, _, _ => rfl
  | v :: r, o, w, a, h => by
    rw [World.setCells, cell_setCells_far b r (o + 1) _ a h]
    exact World.cell?_setCell_far _ _ _ _ h

theorem Tryf.sz37 : (Tryf.prog.info? 37).map (·.size) = some 4 := by kernel_rfl
def sto37 (p v : Value) : Sem Unit := Instr.storeAt 37 p v
theorem sto37_eq (p v : Value) : Instr.storeAt 37 p v = sto37 p v := rfl
theorem run_sto37 (w : World) (b o : Nat) (x : Int) (s : ByteArray) (v : Int) (f : Bool) (ht : w.there b o 4) :
    (sto37 (.pointer (some ⟨b, o, none⟩)) (.agg #[.int .i64 x, .string s, .int .i64 v, .bool f])).run Tryf.prog w = .ok () (w.setCells b o [.int .i64 x, .string s, .int .i64 v, .bool f]) :=
  run_storeAt_mid (P := Tryf.prog) w b o 37 #[.int .i64 x, .string s, .int .i64 v, .bool f] ht Tryf.sz37 (by simp [Value.oneCell'])

theorem Tryf.info37 : (Tryf.prog.info? 37).map (fun i => (i.zero, i.size, i.bytes)) = some (some (.agg #[.int .i64 0, .string ⟨#[]⟩, .int .i64 0, .bool false]), 4, 40) := by kernel_rfl

attribute [local go_sem ↓] sto37_eq
attribute [local go_sem] run_sto37

set_option maxRecDepth 100000 in
set_option maxHeartbeats 1000000 in
theorem toItems_any (a : Option Addr) (n c : Nat) (L : List It) (wc : World) (hl : L.length = n) (hr : RowL wc a L) (hn : n ≤ 16384) :
    Calls Tryf.prog 7 #[.slice a n c] wc fun e w' => e = .returned (.slice (some ⟨wc.heap.size, 0, none⟩) n n) ∧ TInv wc w' wc.heap.size n L n := by
  obtain ⟨i0, hi0, hi1, hi2, hi3⟩ := info_parts Tryf.info37
  go_enter Tryf.func7, Tryf.ntmps7
  go_wp2_with (at_make; refine wpList_make_full _ rfl _ _ 25 rfl wc.heap.size 37 i0 _ 4 Tryf.underlying25 hi0 hi1 hi2 _ _ _ _ n rfl rfl rfl rfl ?c1 ?c2 ?c3 ?_)
  case c1 => rw [hi3]; omega
  case c2 => unfold maxLen; omega
  case c3 => exact Nat.le_refl _
  intro w1 hown hgrow
  have HT := tinv_start (L := L) hown hgrow
  clear hown hgrow
  go_wp2
  go_loopw [4] (fun i wr => ∃ k : Nat, i = .int .i64 k ∧ k ≤ n ∧ TInv wc wr wc.heap.size n L k) (fun i _ => n - (intOf i).toNat)
  case atStart => exact ⟨0, rfl, Nat.zero_le _, HT⟩
  case round =>
    clear HT
    obtain ⟨k, rfl, hk, HT⟩ := hrel
    by_cases hlt : k < n
    · rcases hr with hr | ⟨b, o, e, hbl, hc⟩
      · subst hr; simp at hl; omega
      subst e
      have hcx : ∀ q, wr.cell? ⟨b, q, none⟩ = wc.cell? ⟨b, q, none⟩ := fun q => HT.below.cell (p := ⟨b, q, none⟩) hbl
      have q0 := (hcx _).trans (hc k 0 (by omega) (by omega))
      have q1 := (hcx _).trans (hc k 1 (by omega) (by omega))
      have q2 := (hcx _).trans (hc k 2 (by omega) (by omega))
      have q3 := (hcx _).trans (hc k 3 (by omega) (by omega))
      have HP := HT.drew.put hlt
      generalize hs : L.getD k dIt = s at q0 q1 q2 q3 HP
      obtain ⟨s0, s1, v, s3⟩ := s
      simp only [cellOf, Nat.add_zero] at q0 q1 q2 q3 HP
      have ht := HT.drew.there hlt
      have hi1' : (0 : Int) ≤ (k : Int) := by omega
      have hi2' : (k : Int) < (n : Int) := by omega
      have ne1 : wc.heap.size ≠ b := by omega
      have Hs : Hid (L.getD k dIt = (s0, s1, v, s3)) := hs
      clear hcx hc hs
      go_wp2
      go_region_held3 (fun w' => w'.cell? ⟨b, o + k * 4, none⟩ = some (.int .i64 s0) ∧ w'.cell? ⟨b, o + k * 4 + 1, none⟩ = some (.string s1) ∧ w'.cell? ⟨b, o + k * 4 + 2, none⟩ = some (.int .i64 v) ∧ w'.cell? ⟨b, o + k * 4 + 3, none⟩ = some (.bool s3))
        (simp [*, cell_setCells_far]) (fail)
      go_wp2
      go_roundw
      case rel => exact ⟨k + 1, by go_num, by omega, HP⟩
      case measure => simp [intOf]; omega
    · obtain rfl : k = n := by omega
      go_wp2
      go_ret
      exact ⟨rfl, HT⟩
end Go.Proofs.Qxb6627403aFmt
