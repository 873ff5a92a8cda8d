/-
  Plain mathematics for seat b6630817a: the bits of a byte string and its groups of five. No Go here.
-/
import Derived.Below
namespace Go.Proofs.Qxb6630817a.Pl
set_option linter.unusedVariables false

/-- The bytes fit. -/
def Bytes (zs : List Int) : Prop := ∀ i, 0 ≤ zs.getD i 0 ∧ zs.getD i 0 ≤ 255

/-- Bit j of the byte string, the most significant bit of the first byte first; zero behind the end. -/
def bitAt (zs : List Int) (j : Nat) : Int := if j < zs.length * 8 then zs.getD (j / 8) 0 / 2 ^ (7 - j % 8) % 2 else 0

/-- Group i: the five bits from 5 i on. -/
def grp (zs : List Int) (i : Nat) : Int :=
  16 * bitAt zs (5 * i) + 8 * bitAt zs (5 * i + 1) + 4 * bitAt zs (5 * i + 2) + 2 * bitAt zs (5 * i + 3) + bitAt zs (5 * i + 4)

theorem bitAt_01 (zs : List Int) (j : Nat) : 0 ≤ bitAt zs j ∧ bitAt zs j ≤ 1 := by
  unfold bitAt; split <;> omega

theorem grp_bd (zs : List Int) (i : Nat) : 0 ≤ grp zs i ∧ grp zs i ≤ 31 := by
  have h0 := bitAt_01 zs (5 * i); have h1 := bitAt_01 zs (5 * i + 1); have h2 := bitAt_01 zs (5 * i + 2)
  have h3 := bitAt_01 zs (5 * i + 3); have h4 := bitAt_01 zs (5 * i + 4)
  unfold grp; omega

/-- The low b bits of acc are the last b of the first 8 k bits. -/
def Pend (zs : List Int) (k b : Nat) (acc : Int) : Prop := ∀ t, t < b → acc / 2 ^ t % 2 = bitAt zs (8 * k - 1 - t)

theorem pend_zero (zs : List Int) (acc : Int) : Pend zs 0 0 acc := fun t h => absurd h (by omega)

theorem pend_mono {zs : List Int} {k b b' : Nat} {acc : Int} (h : Pend zs k b acc) (hb : b' ≤ b) : Pend zs k b' acc := fun t ht => h t (by omega)

theorem pow_split (t : Nat) (h : 8 ≤ t) : (2 : Int) ^ t = 256 * 2 ^ (t - 8) := by
  obtain ⟨u, rfl⟩ : ∃ u, t = 8 + u := ⟨t - 8, by omega⟩
  rw [Int.pow_add]; simp

theorem low_bit (acc z : Int) (h0 : 0 ≤ z) (h1 : z ≤ 255) (t : Nat) (ht : t < 8) :
    (acc * 256 % 4294967296 + z) / 2 ^ t % 2 = z / 2 ^ t % 2 := by
  match t, ht with
  | 0, _ => simp; omega
  | 1, _ => simp; omega
  | 2, _ => simp; omega
  | 3, _ => simp; omega
  | 4, _ => simp; omega
  | 5, _ => simp; omega
  | 6, _ => simp; omega
  | 7, _ => simp; omega

theorem high_bit (acc z : Int) (h0 : 0 ≤ z) (h1 : z ≤ 255) (t : Nat) (ht : t < 4) :
    (acc * 256 % 4294967296 + z) / 2 ^ (8 + t) % 2 = acc / 2 ^ t % 2 := by
  match t, ht with
  | 0, _ => simp; omega
  | 1, _ => simp; omega
  | 2, _ => simp; omega
  | 3, _ => simp; omega

/-- One byte more. -/
theorem pend_byte {zs : List Int} {k b : Nat} {acc z : Int} (h : Pend zs k b acc) (hb : b ≤ 4) (hz : z = zs.getD k 0) (hk : k < zs.length) (h0 : 0 ≤ z) (h1 : z ≤ 255) (hbk : b ≤ 8 * k) :
    Pend zs (k + 1) (b + 8) (acc * 256 % 4294967296 + z) := by
  intro t ht
  by_cases h8 : t < 8
  · rw [low_bit acc z h0 h1 t h8]
    have e : 8 * (k + 1) - 1 - t = 8 * k + (7 - t) := by omega
    rw [e]; unfold bitAt
    rw [if_pos (by omega), show (8 * k + (7 - t)) / 8 = k by omega, show 7 - (8 * k + (7 - t)) % 8 = t by omega, hz]
  · obtain ⟨u, rfl⟩ : ∃ u, t = 8 + u := ⟨t - 8, by omega⟩
    rw [high_bit acc z h0 h1 u (by omega), h u (by omega)]
    congr 1
    omega

theorem five (a : Int) : a % 32 = 16 * (a / 16 % 2) + 8 * (a / 8 % 2) + 4 * (a / 4 % 2) + 2 * (a / 2 % 2) + a % 2 := by omega

theorem div_pow (a : Int) (s t : Nat) : a / 2 ^ s / 2 ^ t = a / 2 ^ (s + t) := by
  rw [Int.ediv_ediv_of_nonneg (by exact Int.le_of_lt (Int.pow_pos (by omega))), ← Int.pow_add]

/-- A group is ready. -/
theorem pend_group {zs : List Int} {k b g : Nat} {acc : Int} (h : Pend zs k (b + 5) acc) (hg : 8 * k = 5 * g + (b + 5)) : acc / 2 ^ b % 32 = grp zs g := by
  have h4 := h (b + 4) (by omega); have h3 := h (b + 3) (by omega); have h2 := h (b + 2) (by omega); have h1 := h (b + 1) (by omega); have h0 := h (b + 0) (by omega)
  rw [← div_pow] at h4 h3 h2 h1
  rw [five]
  simp only [show 8 * k - 1 - (b + 4) = 5 * g by omega, show 8 * k - 1 - (b + 3) = 5 * g + 1 by omega, show 8 * k - 1 - (b + 2) = 5 * g + 2 by omega,
    show 8 * k - 1 - (b + 1) = 5 * g + 3 by omega, show 8 * k - 1 - (b + 0) = 5 * g + 4 by omega] at h4 h3 h2 h1 h0
  simp only [Nat.add_zero] at h0
  unfold grp
  rw [← h4, ← h3, ← h2, ← h1, ← h0]
  rfl

/-- The last group: the bits that are left, moved up, zeros behind them. -/
theorem pend_last {zs : List Int} {k b g : Nat} {acc : Int} (h : Pend zs k b acc) (hb0 : 0 < b) (hb : b < 5) (hk : k = zs.length) (hg : 8 * k = 5 * g + b) :
    acc * 2 ^ (5 - b) % 4294967296 % 256 % 32 = grp zs g := by
  have z : ∀ j, 8 * k ≤ j → bitAt zs j = 0 := fun j hj => by unfold bitAt; rw [if_neg (by omega)]
  have hp : ∀ j t, t < b → j = 8 * k - 1 - t → bitAt zs j = acc / 2 ^ t % 2 := fun j t ht e => by rw [e, h t ht]
  unfold grp
  match b, hb0, hb with
  | 1, _, _ =>
    rw [hp (5 * g) 0 (by omega) (by omega), z (5 * g + 1) (by omega), z (5 * g + 2) (by omega), z (5 * g + 3) (by omega), z (5 * g + 4) (by omega)]
    simp; omega
  | 2, _, _ =>
    rw [hp (5 * g) 1 (by omega) (by omega), hp (5 * g + 1) 0 (by omega) (by omega), z (5 * g + 2) (by omega), z (5 * g + 3) (by omega), z (5 * g + 4) (by omega)]
    simp; omega
  | 3, _, _ =>
    rw [hp (5 * g) 2 (by omega) (by omega), hp (5 * g + 1) 1 (by omega) (by omega), hp (5 * g + 2) 0 (by omega) (by omega), z (5 * g + 3) (by omega), z (5 * g + 4) (by omega)]
    simp; omega
  | 4, _, _ =>
    rw [hp (5 * g) 3 (by omega) (by omega), hp (5 * g + 1) 2 (by omega) (by omega), hp (5 * g + 2) 1 (by omega) (by omega), hp (5 * g + 3) 0 (by omega) (by omega), z (5 * g + 4) (by omega)]
    simp; omega

/-- The list of the first g groups. -/
def grps (zs : List Int) (g : Nat) : List Int := (List.range g).map (grp zs)
theorem grps_len (zs : List Int) (g : Nat) : (grps zs g).length = g := by simp [grps]
theorem grps_succ (zs : List Int) (g : Nat) : grps zs (g + 1) = grps zs g ++ [grp zs g] := by simp [grps, List.range_succ]
theorem grps_get (zs : List Int) (g i : Nat) (h : i < g) : (grps zs g)[i]? = some (grp zs i) := by simp [grps, h]

/-- Two lists joined at a multiple of five. -/
theorem bitAt_left (as bs : List Int) (j : Nat) (h : j < as.length * 8) : bitAt (as ++ bs) j = bitAt as j := by
  unfold bitAt
  rw [if_pos h, if_pos (by simp; omega)]
  have : j / 8 < as.length := by omega
  simp [List.getD, List.getElem?_append_left this]

theorem bitAt_right (as bs : List Int) (j : Nat) : bitAt (as ++ bs) (as.length * 8 + j) = bitAt bs j := by
  unfold bitAt
  by_cases h : j < bs.length * 8
  · rw [if_pos h, if_pos (by simp; omega), show (as.length * 8 + j) / 8 = as.length + j / 8 by omega, show (as.length * 8 + j) % 8 = j % 8 by omega]
    simp [List.getD, List.getElem?_append_right]
  · rw [if_neg h, if_neg (by simp; omega)]

theorem grp_left (as bs : List Int) (i : Nat) (h : 5 * i + 4 < as.length * 8) : grp (as ++ bs) i = grp as i := by
  unfold grp
  rw [bitAt_left _ _ _ (by omega), bitAt_left _ _ _ (by omega), bitAt_left _ _ _ (by omega), bitAt_left _ _ _ (by omega), bitAt_left _ _ _ (by omega)]

theorem grp_right (as bs : List Int) (m i : Nat) (h : 5 * m = as.length * 8) : grp (as ++ bs) (m + i) = grp bs i := by
  unfold grp
  rw [show 5 * (m + i) = as.length * 8 + 5 * i by omega]
  simp only [Nat.add_assoc, bitAt_right]

end Go.Proofs.Qxb6630817a.Pl
