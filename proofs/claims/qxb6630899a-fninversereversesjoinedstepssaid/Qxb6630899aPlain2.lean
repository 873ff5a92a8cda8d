/-
  Plain laws: the inverse of joined steps; counts by kind. Seat b6630899a.
-/
import Derived.Test.Qxb6630899aPlain
import Derived.Test.Qxb6630899aSize
namespace Go.Proofs.Qxb6630899a
set_option linter.unusedVariables false
set_option linter.unusedSimpArgs false

theorem inv_join (L : List St) (k : Nat) : invL L 0 = invL (L.drop k) 0 ++ invL (L.take k) 0 := by
  unfold invL
  simp only [List.drop_zero]
  conv => lhs; rw [← List.take_append_drop k L]
  rw [List.reverse_append, List.filterMap_append]

/-- The kind of an operation: 0 move, 1 wrap, 2 unwrap, 3 other. -/
def kd (s : ByteArray) : Nat := if isM s then 0 else if isW s then 1 else if isU s then 2 else 3

/-- How many steps are of kind c. -/
def cnt (c : Nat) (L : List St) : Nat := (L.filter fun s => kd s.1 == c).length

theorem kd_bM : kd bM = 0 := by
  have m1 : isM bM = true := by unfold isM; rw [ByteArray.toList_eq]; decide
  simp [kd, m1]
theorem kd_bW : kd bW = 1 := by
  have m1 : isM bW = false := by unfold isM; rw [ByteArray.toList_eq]; decide
  have m2 : isW bW = true := by unfold isW; rw [ByteArray.toList_eq]; decide
  simp [kd, m1, m2]
theorem kd_bU : kd bU = 2 := by
  have m1 : isM bU = false := by unfold isM; rw [ByteArray.toList_eq]; decide
  have m2 : isW bU = false := by unfold isW; rw [ByteArray.toList_eq]; decide
  have m3 : isU bU = true := by unfold isU; rw [ByteArray.toList_eq]; decide
  simp [kd, m1, m2, m3]

/-- What an inverse looks like. -/
theorem invS_cases (s : St) : (kd s.1 = 0 ∧ invS s = some (bM, s.2.2, s.2.1)) ∨ (kd s.1 = 1 ∧ invS s = some (bU, s.2.2, s.2.1)) ∨ (kd s.1 = 2 ∧ invS s = some (bW, s.2.2, s.2.1)) ∨ (kd s.1 = 3 ∧ invS s = none) := by
  unfold kd invS
  cases h1 : isM s.1
  · cases h2 : isW s.1
    · cases h3 : isU s.1 <;> simp
    · simp
  · simp

def sw (c : Nat) : Nat := if c = 0 then 0 else if c = 1 then 2 else 1

theorem cnt_filterMap (c : Nat) (hc : c < 3) : ∀ l : List St, cnt (sw c) (l.filterMap invS) = cnt c l
  | [] => rfl
  | s :: r => by
    have ih := cnt_filterMap c hc r
    unfold cnt at ih ⊢
    have hcc : c = 0 ∨ c = 1 ∨ c = 2 := by omega
    rcases invS_cases s with ⟨h1, h2⟩ | ⟨h1, h2⟩ | ⟨h1, h2⟩ | ⟨h1, h2⟩ <;> rcases hcc with rfl | rfl | rfl <;>
      simp [List.filterMap_cons, h2, List.filter_cons, h1, kd_bM, kd_bW, kd_bU, sw] <;> simpa [sw] using ih

theorem cnt_inv (c : Nat) (hc : c < 3) (L : List St) : cnt (sw c) (invL L 0) = cnt c L := by
  unfold invL
  rw [List.drop_zero, cnt_filterMap c hc]
  unfold cnt
  rw [List.filter_reverse, List.length_reverse]

theorem cnt_hit {c : Nat} {L : List St} {k : Nat} (hk : k < L.length) (h : kd (L.getD k dSt).1 = c) : cnt c (L.take (k + 1)) = cnt c (L.take k) + 1 :=
  (filter_at (fun s => kd s.1 == c) L k hk (beq_iff_eq.2 h)).2.2
theorem cnt_miss {c : Nat} {L : List St} {k : Nat} (hk : k < L.length) (h : kd (L.getD k dSt).1 ≠ c) : cnt c (L.take (k + 1)) = cnt c (L.take k) :=
  filter_skip (fun s => kd s.1 == c) L k hk (beq_eq_false_iff_ne.2 h)
theorem cnt_le (c : Nat) (L : List St) (k : Nat) : cnt c (L.take k) ≤ k := by
  unfold cnt
  exact Nat.le_trans (List.length_filter_le _ _) (by simp; omega)

theorem getD_mem {L : List St} {i : Nat} (h : i < L.length) : L.getD i dSt ∈ L := by
  have e : L.getD i dSt = L[i] := by simp [List.getD, List.getElem?_eq_getElem h]
  rw [e]
  exact List.getElem_mem h

theorem mem_getD {L : List St} {s : St} (h : s ∈ L) : ∃ i, i < L.length ∧ L.getD i dSt = s := by
  obtain ⟨i, hi, e⟩ := List.getElem_of_mem h
  exact ⟨i, hi, by simp [List.getD, List.getElem?_eq_getElem hi, e]⟩

/-- A step of the inverse comes of a step. -/
theorem inv_from {L : List St} {i : Nat} (h : i < (invL L 0).length) : ∃ j, j < L.length ∧ ((invL L 0).getD i dSt).2 = ((L.getD j dSt).2.2, (L.getD j dSt).2.1) ∧ kd ((invL L 0).getD i dSt).1 < 3 := by
  have hm := getD_mem h
  generalize (invL L 0).getD i dSt = t at hm
  unfold invL at hm
  rw [List.mem_filterMap] at hm
  obtain ⟨s, hs, e⟩ := hm
  rw [List.drop_zero, List.mem_reverse] at hs
  obtain ⟨j, hj, rfl⟩ := mem_getD hs
  refine ⟨j, hj, ?_⟩
  rcases invS_cases (L.getD j dSt) with ⟨_, h2⟩ | ⟨_, h2⟩ | ⟨_, h2⟩ | ⟨_, h2⟩ <;> rw [h2] at e <;> cases e
  · exact ⟨rfl, by rw [kd_bM]; omega⟩
  · exact ⟨rfl, by rw [kd_bU]; omega⟩
  · exact ⟨rfl, by rw [kd_bW]; omega⟩

theorem inv_paths {w : World} {L : List St} (h : PathsOk w L) : PathsOk w (invL L 0) := fun i hi => by
  obtain ⟨j, hj, e, _⟩ := inv_from hi
  rw [e]
  exact ⟨(h j hj).2, (h j hj).1⟩
theorem inv_small {L : List St} (h : Small L) : Small (invL L 0) := ⟨Nat.le_trans (invL_le L 0) h.1, fun i hi => by
  obtain ⟨j, hj, e, _⟩ := inv_from hi
  rw [e]
  exact ⟨(h.2 j hj).2, (h.2 j hj).1⟩⟩

theorem rowL_take {w : World} {a : Option Addr} {L : List St} (k : Nat) (h : RowL w a L) : RowL w a (L.take k) := by
  rcases h with rfl | ⟨b, o, e, hlt, hc⟩
  · exact .inl (by simp)
  · refine .inr ⟨b, o, e, hlt, fun i j hi hj => ?_⟩
    have hi' : i < k ∧ i < L.length := by simp at hi; omega
    rw [hc i j hi'.2 hj]
    simp [List.getD, List.getElem?_take, hi'.1]

theorem rowL_drop {w : World} {b o : Nat} {L : List St} (k : Nat) (h : RowL w (some ⟨b, o, none⟩) L) : RowL w (some ⟨b, o + k * 3, none⟩) (L.drop k) := by
  rcases h with rfl | ⟨b, o, e, hlt, hc⟩
  · exact .inl (by simp)
  · cases e
    refine .inr ⟨_, _, rfl, hlt, fun i j hi hj => ?_⟩
    have hi' : k + i < L.length := by simp at hi; omega
    have := hc (k + i) j hi' hj
    rw [show o + k * 3 + i * 3 + j = o + (k + i) * 3 + j by omega, this]
    simp [List.getD, List.getElem?_drop]
end Go.Proofs.Qxb6630899a
