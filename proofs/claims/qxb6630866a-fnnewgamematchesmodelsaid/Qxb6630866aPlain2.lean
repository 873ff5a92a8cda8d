/-
  Counting different edges and cells; the last line of an edge: plain laws. Seat b6630866a.
-/
import Derived.Test.Qxb6630866aPlain
namespace Go.Proofs.Qxb6630866a
open Go.Maps
set_option linter.unusedVariables false

def sameB (a b : Ed) : Bool := decide (a = b) || decide (a = flipE b)

theorem same_key (a b : Ed) : sameB a b = true ↔ keyE a = keyE b := by
  unfold sameB
  rw [Bool.or_eq_true, decide_eq_true_iff, decide_eq_true_iff]
  constructor
  · rintro (rfl | rfl)
    · rfl
    · exact key_flip b
  · intro h
    rcases key_or a with ha | ha <;> rcases key_or b with hb | hb <;> rw [ha, hb] at h
    · exact .inl h
    · exact .inr h
    · right; rw [← h, flip_flip]
    · left; rw [← flip_flip a, h, flip_flip]

/-- Is the k-th edge, or its reverse, among those before it? How many of the first k are not? -/
def seenE (f : Nat → Nat → Int) (k : Nat) : Bool := (List.range k).any fun j => sameB (ed f j) (ed f k)
def cntE (f : Nat → Nat → Int) : Nat → Nat
  | 0 => 0
  | k + 1 => if seenE f k then cntE f k else cntE f k + 1
def seenC (f : Nat → Nat → Int) (k : Nat) : Bool := (List.range k).any fun j => decide (ce f j = ce f k)
def cntC (f : Nat → Nat → Int) : Nat → Nat
  | 0 => 0
  | k + 1 => if seenC f k then cntC f k else cntC f k + 1

section
variable {f g h : Nat → Nat → Int}

theorem cntE_le : ∀ n, cntE f n ≤ n
  | 0 => Nat.le_refl _
  | n + 1 => by have := cntE_le n; unfold cntE; split <;> omega
theorem cntC_le : ∀ n, cntC f n ≤ n
  | 0 => Nat.le_refl _
  | n + 1 => by have := cntC_le n; unfold cntC; split <;> omega

theorem seen_of {k j : Nat} (hj : j < k) (h : sameB (ed f j) (ed f k) = true) : seenE f k = true := List.any_eq_true.2 ⟨j, by simpa using hj, h⟩
theorem unseen_of {k : Nat} (h : ∀ j, j < k → sameB (ed f j) (ed f k) = false) : seenE f k = false := by
  unfold seenE
  rw [List.any_eq_false]
  intro j hj
  rw [h j (by simpa using hj)]; simp
theorem seenC_of {k j : Nat} (hj : j < k) (h : ce f j = ce f k) : seenC f k = true := List.any_eq_true.2 ⟨j, by simpa using hj, by simp [h]⟩
theorem unseenC_of {k : Nat} (h : ∀ j, j < k → ce f j ≠ ce f k) : seenC f k = false := by
  unfold seenC
  rw [List.any_eq_false]
  intro j hj
  simp [h j (by simpa using hj)]

theorem tidy_wD : ∀ n, Tidy (wD f n)
  | 0 => tidy_empty
  | n + 1 => (tidy_wD n).put (kl_isKey _) _
theorem tidy_mD : ∀ n, Tidy (mD f n)
  | 0 => tidy_empty
  | n + 1 => (tidy_mD n).put (kl_isKey _) _
theorem tidy_cD : ∀ n, Tidy (cD f n)
  | 0 => tidy_empty
  | n + 1 => (tidy_cD n).put (kc_isKey _) _

theorem has_seen {D : DataW Unit} {k : Nat} (hD : ∀ q, Maps.has D q = true ↔ ∃ i, i < k ∧ kl (keyE (ed f i)) = q) (hf : FitsE (k + 1) f) : Maps.has D (kl (keyE (ed f k))) = seenE f k := by
  rw [Bool.eq_iff_iff, hD]
  unfold seenE
  rw [List.any_eq_true]
  constructor
  · rintro ⟨i, hi, e⟩
    exact ⟨i, by simpa using hi, (same_key _ _).2 (kl_inj (okE_key (hf i (by omega))) (okE_key (hf k (by omega))) e)⟩
  · rintro ⟨i, hi, e⟩
    exact ⟨i, by simpa using hi, by rw [(same_key _ _).1 e]⟩

theorem size_wD : ∀ n, FitsE n f → Maps.size (wD f n) = cntE f n
  | 0, _ => rfl
  | n + 1, hf => by
    rw [wD, size_put (tidy_wD n), has_seen (fun q => has_wD q n) hf, size_wD n (fun i hi => hf i (by omega))]
    rfl
theorem size_mD : ∀ n, FitsE n f → Maps.size (mD f n) = cntE f n
  | 0, _ => rfl
  | n + 1, hf => by
    rw [mD, size_put (tidy_mD n), has_seen (fun q => has_mD q n) hf, size_mD n (fun i hi => hf i (by omega))]
    rfl

def FitsC (n : Nat) (f : Nat → Nat → Int) : Prop := ∀ i, i < n → Ce.ok (ce f i)

theorem size_cD : ∀ n, FitsC n f → Maps.size (cD f n) = cntC f n
  | 0, _ => rfl
  | n + 1, hf => by
    have hs : Maps.has (cD f n) (kc (ce f n)) = seenC f n := by
      rw [Bool.eq_iff_iff, has_cD]
      unfold seenC
      rw [List.any_eq_true]
      constructor
      · rintro ⟨i, hi, e⟩
        exact ⟨i, by simpa using hi, by simpa using kc_inj (hf i (by omega)) (hf n (by omega)) e⟩
      · rintro ⟨i, hi, e⟩
        exact ⟨i, by simpa using hi, by rw [of_decide_eq_true e]⟩
    rw [cD, size_put (tidy_cD n), hs, size_cD n (fun i hi => hf i (by omega))]
    rfl

/-- The last line of an edge tells. -/
theorem at_mD (z : DataW Unit) {j : Nat} : ∀ n, FitsE n g → j < n → (∀ j', j < j' → j' < n → keyE (ed g j') ≠ keyE (ed g j)) → (mD g n).atKey (kl (keyE (ed g j))) z = .lit (.int .i64 (g j 4))
  | 0, _, hj, _ => absurd hj (by omega)
  | n + 1, hf, hj, hl => by
    by_cases e : j = n
    · subst e
      exact atKey_put_same (isMap_mD j) (kl_isKey _) _ _
    · have hne : kl (keyE (ed g j)) ≠ kl (keyE (ed g n)) := fun h => hl n (by omega) (by omega) (kl_inj (okE_key (hf j hj)) (okE_key (hf n (by omega))) h).symm
      rw [mD, atKey_put_other hne]
      exact at_mD z n (fun i hi => hf i (by omega)) (by omega) (fun j' h1 h2 => hl j' h1 (by omega))

/-- A canonical key is there; its reverse only where the two are one. -/
theorem rev_absent {D : DataW Unit} {n : Nat} (hD : ∀ k, Maps.has D k = true ↔ ∃ i, i < n ∧ kl (keyE (ed f i)) = k) (hf : FitsE n f) (i : Nat) (hi : i < n) (hne : flipE (keyE (ed f i)) ≠ keyE (ed f i)) :
    Maps.has D (kl (flipE (keyE (ed f i)))) = false := by
  rw [← Bool.not_eq_true]
  intro h
  obtain ⟨j, hj, e⟩ := (hD _).1 h
  have e1 := kl_inj (okE_key (hf j hj)) (ok_flip (okE_key (hf i hi))) e
  have e2 : keyE (flipE (keyE (ed f i))) = flipE (keyE (ed f i)) := by rw [← e1, key_key]
  rw [key_flip, key_key] at e2
  exact hne e2.symm
end
end Go.Proofs.Qxb6630866a
