/-
  Plain laws on rows of steps. Seat b6630899a.
-/
import Derived.Test.Qxb6630899aInv
namespace Go.Proofs.Qxb6630899a
set_option linter.unusedVariables false

/-- The step has an inverse. -/
def can (s : St) : Bool := isM s.1 || isW s.1 || isU s.1

theorem bytes_eq {s : ByteArray} {l : List UInt8} (h : (s.toList == l) = true) (t : ByteArray) (ht : t.data.toList = l) : s = t := by
  have h1 : s.toList = l := by simpa using h
  have h2 : s.data.toList = l := by rw [← h1, ByteArray.toList_eq]
  obtain ⟨d⟩ := s
  obtain ⟨d'⟩ := t
  simp only at h2 ht
  congr 1
  exact Array.toList_inj.1 (h2.trans ht.symm)

theorem invS_twice (s : St) : (invS s).bind invS = if can s then some s else none := by
  obtain ⟨op, f, t⟩ := s
  have m1 : isM bM = true := by unfold isM; rw [ByteArray.toList_eq]; decide
  have m2 : isM bU = false := by unfold isM; rw [ByteArray.toList_eq]; decide
  have m3 : isM bW = false := by unfold isM; rw [ByteArray.toList_eq]; decide
  have m4 : isW bU = false := by unfold isW; rw [ByteArray.toList_eq]; decide
  have m5 : isW bW = true := by unfold isW; rw [ByteArray.toList_eq]; decide
  have m6 : isU bU = true := by unfold isU; rw [ByteArray.toList_eq]; decide
  cases h1 : isM op
  · cases h2 : isW op
    · cases h3 : isU op
      · simp [invS, can, h1, h2, h3]
      · have e : op = bU := bytes_eq h3 bU rfl
        subst e
        simp [invS, can, m2, m4, m6, m3, m5]
    · have e : op = bW := bytes_eq h2 bW rfl
      subst e
      simp [invS, can, m2, m4, m6, m3, m5]
  · have e : op = bM := bytes_eq h1 bM rfl
    subst e
    simp [invS, can, m1]

theorem inv_twice (L : List St) : invL (invL L 0) 0 = L.filter can := by
  unfold invL
  simp only [List.drop_zero, List.filterMap_reverse, List.reverse_reverse, List.filterMap_filterMap]
  rw [show (fun x => (invS x).bind invS) = fun s => if can s then some s else none from funext invS_twice]
  induction L with
  | nil => rfl
  | cons s r ih =>
    rw [List.filterMap_cons, List.filter_cons, ih]
    cases can s <;> simp

theorem filter_at (p : St → Bool) (L : List St) (k : Nat) (hk : k < L.length) (h : p (L.getD k dSt) = true) :
    (L.filter p).getD ((L.take k).filter p).length dSt = L.getD k dSt ∧ ((L.take k).filter p).length < (L.filter p).length ∧ ((L.take (k + 1)).filter p).length = ((L.take k).filter p).length + 1 := by
  have e : L.getD k dSt = L[k] := by simp [List.getD, List.getElem?_eq_getElem hk]
  rw [e] at h ⊢
  have e2 : L = L.take k ++ L[k] :: L.drop (k + 1) := by rw [← List.drop_eq_getElem_cons hk, List.take_append_drop]
  have e3 : L.filter p = (L.take k).filter p ++ L[k] :: (L.drop (k + 1)).filter p := by
    conv => lhs; rw [e2]
    rw [List.filter_append, List.filter_cons, if_pos h]
  refine ⟨?_, ?_, ?_⟩
  · rw [e3]
    simp [List.getD]
  · rw [e3]
    simp
  · rw [List.take_succ_eq_append_getElem hk, List.filter_append]
    simp [h]

theorem filter_skip (p : St → Bool) (L : List St) (k : Nat) (hk : k < L.length) (h : p (L.getD k dSt) = false) :
    ((L.take (k + 1)).filter p).length = ((L.take k).filter p).length := by
  have e : L.getD k dSt = L[k] := by simp [List.getD, List.getElem?_eq_getElem hk]
  rw [e] at h
  rw [List.take_succ_eq_append_getElem hk, List.filter_append]
  simp [h]

theorem invL_le (L : List St) (q : Nat) : (invL L q).length ≤ L.length := by
  unfold invL
  refine Nat.le_trans (List.length_filterMap_le _ _) ?_
  simp
end Go.Proofs.Qxb6630899a
