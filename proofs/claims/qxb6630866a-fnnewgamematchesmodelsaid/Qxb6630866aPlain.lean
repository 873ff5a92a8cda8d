/-
  What the three maps hold: plain laws. Seat b6630866a.
-/
import Derived.Test.Qxb6630866aRowsN
namespace Go.Proofs.Qxb6630866a
open Go.Maps
set_option linter.unusedVariables false

theorem flip_flip (e : Ed) : flipE (flipE e) = e := rfl
theorem ok_flip {e : Ed} (h : Ed.ok e) : Ed.ok (flipE e) := ⟨h.2.2.1, h.2.2.2, h.1, h.2.1⟩
theorem key_or (e : Ed) : keyE e = e ∨ keyE e = flipE e := by
  unfold keyE
  split
  · exact .inr rfl
  · exact .inl rfl
theorem key_flip (e : Ed) : keyE (flipE e) = keyE e := by
  obtain ⟨a, b, c, d⟩ := e
  unfold keyE flipE
  simp only
  by_cases h1 : c < a ∨ (c = a ∧ d < b)
  · rw [if_neg (by omega), if_pos h1]
  · rw [if_neg h1]
    by_cases h2 : a < c ∨ (a = c ∧ b < d)
    · rw [if_pos h2]
    · rw [if_neg h2]
      have e1 : a = c := by omega
      have e2 : b = d := by omega
      rw [e1, e2]
theorem key_key (e : Ed) : keyE (keyE e) = keyE e := by
  rcases key_or e with h | h
  · rw [h, h]
  · rw [h, key_flip, h]

section
variable {f g h : Nat → Nat → Int} {n : Nat}

theorem isMap_wD : ∀ n, IsMap (wD f n)
  | 0 => isMap_empty
  | n + 1 => (isMap_wD n).put _ _
theorem isMap_mD : ∀ n, IsMap (mD f n)
  | 0 => isMap_empty
  | n + 1 => (isMap_mD n).put _ _
theorem isMap_cD : ∀ n, IsMap (cD f n)
  | 0 => isMap_empty
  | n + 1 => (isMap_cD n).put _ _

theorem has_wD (k : Lit) : ∀ n, Maps.has (wD f n) k = true ↔ ∃ i, i < n ∧ kl (keyE (ed f i)) = k
  | 0 => by simp [wD, Maps.has]
  | n + 1 => by
    by_cases e : kl (keyE (ed f n)) = k
    · subst e
      constructor
      · intro _; exact ⟨n, by omega, rfl⟩
      · intro _; exact has_put_same (isMap_wD n) (kl_isKey _) _
    · rw [wD, has_put_other (Ne.symm e), has_wD k n]
      constructor
      · rintro ⟨i, hi, h⟩; exact ⟨i, by omega, h⟩
      · rintro ⟨i, hi, h⟩
        by_cases hin : i = n
        · subst hin; exact absurd h e
        · exact ⟨i, by omega, h⟩

theorem at_wD (k : Lit) (z : DataW Unit) : ∀ n, Maps.has (wD f n) k = true → (wD f n).atKey k z = .lit (.bool true)
  | 0, h => by simp [wD, Maps.has] at h
  | n + 1, h => by
    by_cases e : k = kl (keyE (ed f n))
    · subst e; exact atKey_put_same (isMap_wD n) (kl_isKey _) _ _
    · rw [wD, has_put_other e] at h
      rw [wD, atKey_put_other e]
      exact at_wD k z n h

theorem has_mD (k : Lit) : ∀ n, Maps.has (mD f n) k = true ↔ ∃ i, i < n ∧ kl (keyE (ed f i)) = k
  | 0 => by simp [mD, Maps.has]
  | n + 1 => by
    by_cases e : kl (keyE (ed f n)) = k
    · subst e
      constructor
      · intro _; exact ⟨n, by omega, rfl⟩
      · intro _; exact has_put_same (isMap_mD n) (kl_isKey _) _
    · rw [mD, has_put_other (Ne.symm e), has_mD k n]
      constructor
      · rintro ⟨i, hi, h⟩; exact ⟨i, by omega, h⟩
      · rintro ⟨i, hi, h⟩
        by_cases hin : i = n
        · subst hin; exact absurd h e
        · exact ⟨i, by omega, h⟩

theorem has_cD (k : Lit) : ∀ n, Maps.has (cD f n) k = true ↔ ∃ i, i < n ∧ kc (ce f i) = k
  | 0 => by simp [cD, Maps.has]
  | n + 1 => by
    by_cases e : kc (ce f n) = k
    · subst e
      constructor
      · intro _; exact ⟨n, by omega, rfl⟩
      · intro _; exact has_put_same (isMap_cD n) (kc_isKey _) _
    · rw [cD, has_put_other (Ne.symm e), has_cD k n]
      constructor
      · rintro ⟨i, hi, h⟩; exact ⟨i, by omega, h⟩
      · rintro ⟨i, hi, h⟩
        by_cases hin : i = n
        · subst hin; exact absurd h e
        · exact ⟨i, by omega, h⟩

theorem at_cD (k : Lit) (z : DataW Unit) : ∀ n, Maps.has (cD f n) k = true → (cD f n).atKey k z = .lit (.bool true)
  | 0, h => by simp [cD, Maps.has] at h
  | n + 1, h => by
    by_cases e : k = kc (ce f n)
    · subst e; exact atKey_put_same (isMap_cD n) (kc_isKey _) _ _
    · rw [cD, has_put_other e] at h
      rw [cD, atKey_put_other e]
      exact at_cD k z n h

theorem ed_flip (f : Nat → Nat → Int) (i : Nat) : ed (flipF f) i = flipE (ed f i) := rfl
theorem ed_rev (n : Nat) (f : Nat → Nat → Int) (i : Nat) : ed (revF n f) i = ed f (n - 1 - i) := rfl
theorem ce_rev (n : Nat) (f : Nat → Nat → Int) (i : Nat) : ce (revF n f) i = ce f (n - 1 - i) := rfl

theorem mD_flip : ∀ n, mD (flipF g) n = mD g n
  | 0 => rfl
  | n + 1 => by rw [mD, mD, mD_flip n, ed_flip, key_flip]; rfl

theorem wD_shuf (c1 : Canon (wD f n)) (c2 : Canon (wD (flipF (revF n f)) n)) : wD (flipF (revF n f)) n = wD f n := by
  have hh : ∀ k, Maps.has (wD (flipF (revF n f)) n) k = Maps.has (wD f n) k := by
    intro k
    rw [Bool.eq_iff_iff, has_wD, has_wD]
    constructor
    · rintro ⟨i, hi, e⟩
      rw [ed_flip, key_flip, ed_rev] at e
      exact ⟨n - 1 - i, by omega, e⟩
    · rintro ⟨i, hi, e⟩
      refine ⟨n - 1 - i, by omega, ?_⟩
      rw [ed_flip, key_flip, ed_rev, show n - 1 - (n - 1 - i) = i by omega]
      exact e
  exact ext c2 c1 hh (fun k z h1 => by rw [at_wD k z n h1, at_wD k z n (by rw [← hh]; exact h1)])

theorem cD_shuf (c1 : Canon (cD h n)) (c2 : Canon (cD (revF n h) n)) : cD (revF n h) n = cD h n := by
  have hh : ∀ k, Maps.has (cD (revF n h) n) k = Maps.has (cD h n) k := by
    intro k
    rw [Bool.eq_iff_iff, has_cD, has_cD]
    constructor
    · rintro ⟨i, hi, e⟩
      rw [ce_rev] at e
      exact ⟨n - 1 - i, by omega, e⟩
    · rintro ⟨i, hi, e⟩
      refine ⟨n - 1 - i, by omega, ?_⟩
      rw [ce_rev, show n - 1 - (n - 1 - i) = i by omega]
      exact e
  exact ext c2 c1 hh (fun k z h1 => by rw [at_cD k z n h1, at_cD k z n (by rw [← hh]; exact h1)])

/-- Edges fit. -/
def FitsE (n : Nat) (f : Nat → Nat → Int) : Prop := ∀ i, i < n → Ed.ok (ed f i)

theorem fitsE_of {k : Nat} (h4 : 4 ≤ k) (hf : Fits n k f) : FitsE n f := fun i hi => ⟨hf i 0 hi (by omega), hf i 1 hi (by omega), hf i 2 hi (by omega), hf i 3 hi (by omega)⟩

/-- Of a listed edge and its reverse at least one is a key; both only where they are one. -/
theorem pair_law {D : DataW Unit} (hD : ∀ k, Maps.has D k = true ↔ ∃ i, i < n ∧ kl (keyE (ed f i)) = k) (hf : FitsE n f) (i : Nat) (hi : i < n) :
    (Maps.has D (kl (ed f i)) = true ∧ Maps.has D (kl (flipE (ed f i))) = false ∧ ed f i ≠ flipE (ed f i)) ∨
    (Maps.has D (kl (ed f i)) = false ∧ Maps.has D (kl (flipE (ed f i))) = true ∧ ed f i ≠ flipE (ed f i)) ∨
    (Maps.has D (kl (ed f i)) = true ∧ Maps.has D (kl (flipE (ed f i))) = true ∧ ed f i = flipE (ed f i)) := by
  have canon : ∀ x, Ed.ok x → Maps.has D (kl x) = true → keyE x = x := by
    intro x hx h
    obtain ⟨j, hj, e⟩ := (hD _).1 h
    have := kl_inj (okE_key (hf j hj)) hx e
    rw [← this, key_key]
  have ho := hf i hi
  have hk : Maps.has D (kl (keyE (ed f i))) = true := (hD _).2 ⟨i, hi, rfl⟩
  by_cases he : ed f i = flipE (ed f i)
  · right; right
    rcases key_or (ed f i) with h | h
    · rw [h] at hk; exact ⟨hk, he ▸ hk, he⟩
    · rw [h] at hk; exact ⟨by rw [← he] at hk; exact hk, hk, he⟩
  · rcases key_or (ed f i) with h | h
    · left
      refine ⟨by rw [h] at hk; exact hk, ?_, he⟩
      rw [← Bool.not_eq_true]
      intro h2
      have := canon _ (ok_flip ho) h2
      rw [key_flip, h] at this
      exact he this
    · right; left
      refine ⟨?_, by rw [h] at hk; exact hk, he⟩
      rw [← Bool.not_eq_true]
      intro h2
      have := canon _ ho h2
      rw [h] at this
      exact he this.symm
end
end Go.Proofs.Qxb6630866a
