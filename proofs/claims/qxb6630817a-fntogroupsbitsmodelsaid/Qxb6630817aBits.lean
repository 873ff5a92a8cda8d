/-
  The walk of FnToGroupsBitsModel (function 3) and of zzBitAt (function 7). Seat b6630817a.
-/
import Derived.Test.Qxb6630817aCopy
import Derived.Deep.Cut
namespace Go.Proofs.Qxb6630817a
open Go.RowKit
set_option linter.unusedVariables false

namespace Pl
/-- The first k bits of group i, read as a number. -/
def pv (zs : List Int) (i : Nat) : Nat → Int
  | 0 => 0
  | k + 1 => 2 * pv zs i k + bitAt zs (5 * i + k)
theorem pv_bd (zs : List Int) (i : Nat) : ∀ k, k ≤ 5 → 0 ≤ pv zs i k ∧ pv zs i k ≤ 31 := by
  intro k hk
  have h0 := bitAt_01 zs (5 * i + 0); have h1 := bitAt_01 zs (5 * i + 1); have h2 := bitAt_01 zs (5 * i + 2)
  have h3 := bitAt_01 zs (5 * i + 3); have h4 := bitAt_01 zs (5 * i + 4)
  match k, hk with
  | 0, _ => simp [pv]
  | 1, _ => simp only [pv]; omega
  | 2, _ => simp only [pv]; omega
  | 3, _ => simp only [pv]; omega
  | 4, _ => simp only [pv]; omega
  | 5, _ => simp only [pv]; omega
theorem pv_five (zs : List Int) (i : Nat) : pv zs i 5 = grp zs i := by
  simp only [pv, grp, Nat.add_zero]; omega
end Pl

theorem or_bit (v b : Int) (hv : 0 ≤ v ∧ v ≤ 31) (hb : 0 ≤ b ∧ b ≤ 1) : bits .or .u8 (v * 2) b = 2 * v + b := by
  rw [u8_or _ _ (by omega) (by omega) hb.1 (by omega), nat_join 1 _ _ (by simp; omega) (by simp; omega)]
  omega

theorem ret_int {k : IntKind} {a b : Int} (h : a = b) : Ending.returned (.int k a) = .returned (.int k b) := by rw [h]

theorem bit_eq (zs : List Int) (n j : Nat) (hl : zs.length = n) (hj : j < n * 8) (hbd : 0 ≤ zs.getD (j / 8) 0 ∧ zs.getD (j / 8) 0 ≤ 255) :
    bits .and .u8 ((zs[j / 8]'(by omega)) / 2 ^ (7 - j % 8)) 1 = Pl.bitAt zs j := by
  have hlt : j / 8 < zs.length := by omega
  have e : zs.getD (j / 8) 0 = zs[j / 8] := by simp [List.getD, hlt]
  rw [e] at hbd
  have hp : (0 : Int) < 2 ^ (7 - j % 8) := Int.pow_pos (by omega)
  have h0 : 0 ≤ zs[j / 8] / 2 ^ (7 - j % 8) := Int.ediv_nonneg hbd.1 (by omega)
  have h1 : zs[j / 8] / 2 ^ (7 - j % 8) ≤ zs[j / 8] := Int.ediv_le_self _ hbd.1
  rw [u8_and _ _ h0 (by omega) (by omega) (by omega)]
  unfold Pl.bitAt
  rw [if_pos (by omega), e, show Int.toNat 1 = 1 from rfl, nat_mask1]
  omega

set_option maxHeartbeats 400000 in
theorem bit_any (a : Option Addr) (n c j : Nat) (zs : List Int) (w : World) (hr : Row w a n zs) (hn : n ≤ 1048576) (hj : j ≤ 100000000) :
    Calls Try.prog 7 #[.slice a n c, .int .i64 j] w fun e w' => e = .returned (.int .u8 (Pl.bitAt zs j)) ∧ w = w' := by
  obtain ⟨hl, hB, h⟩ := hr
  by_cases hjn : j < n * 8
  · rcases h with h | ⟨b, o, rfl, hlt, hc⟩
    · omega
    have hcx := hc (j / 8) (by omega)
    have hbd := hB (j / 8)
    have hj8 : j / 8 < n := by omega
    go_enter Try.func7, Try.ntmps7
    go_wp2
    go_ret
    exact ⟨ret_int (bit_eq zs n j hl hjn hbd), rfl⟩
  · go_enter Try.func7, Try.ntmps7
    go_wp2
    go_ret
    exact ⟨by simp only [Pl.bitAt]; rw [if_neg (by omega)]; rfl, rfl⟩
set_option maxRecDepth 100000 in
set_option maxHeartbeats 1000000 in
theorem bits_main (a0 : Option Addr) (n c : Nat) (zs : List Int) (w : World) (h0 : Row w a0 n zs) (hn : n ≤ 1048576) :
    Calls Try.prog 3 #[.slice a0 n c] w fun e w' => e = .returned (.bool true) ∧ Below w.heap.size w w' := by
  obtain ⟨i0, hi, hz0, hz1, hz2⟩ := info_parts Try.info5
  have hne := fun (w : World) (a : Option Addr) (n c : Nat) => run_neq_slice_nil_any (P := Try.prog) w 22 5 a n c 0 0 Try.underlying22
  have hbb : decide (n ≤ 1048576) = true := by simp; omega
  go_enter Try.func3, Try.ntmps3
  go_upto_if 17 with (first | (go_at_call 5; refine (bytes1_any _ _ _ _ (by unfold maxLen; omega)).mono ?_; rintro e w' ⟨rfl, rfl⟩))
  go_cut [0] from 10 (fun va wx => ∃ a c, va = .slice a n c ∧ Row wx a n zs ∧ Below w.heap.size w wx)
  case first =>
    cases a0 with
    | none =>
      go_wp2
      go_meet
      case rel => exact ⟨_, _, rfl, h0, Below.refl _ _⟩
    | some ad =>
      go_wp2_with (at_make; refine wpList_make_full _ rfl _ _ 22 rfl w.heap.size 5 i0 (.int .u8 0) 1 Try.underlying22 hi hz0 hz1 _ _ _ _ n rfl rfl rfl rfl ?c1 ?c2 ?c3 ?_)
      case c1 => rw [hz2]; omega
      case c2 => unfold maxLen; omega
      case c3 => exact Nat.le_refl _
      intro w1 hown hgrow
      have hbel : Below w.heap.size w w1 := (Below.refl _ _).grown hgrow (Nat.le_refl _) (fun k h => by cases h)
      obtain ⟨w3, hcp, hr3, hb3⟩ := copy_run w1 w.heap.size w.heap.size n c (some ad) zs _ (h0.later hbel) hown
      have hbel3 := hb3 w.heap.size w (Nat.le_refl _) hbel
      clear hb3 hown hgrow hbel
      go_wp2
      go_meet
      case rel => exact ⟨_, _, rfl, hr3, hbel3⟩
  case rest =>
    clear h0
    obtain ⟨a, ca, rfl, hra, hbel⟩ := hcut
    go_wp2_with fail
    refine (ZZ_any _ _ _ zs _ hra (by omega)).mono ?_
    rintro e wA ⟨g, cg, rfl, hg, ho, hbA⟩
    have hra2 := hra.later hbA
    have hb2 : Below w.heap.size w wA := hbel.trans (hbA.mono hbel.size)
    clear hra hbA hbel hg
    go_wp2
    go_loop [7] (fun i => ∃ t : Nat, i = .int .i64 t ∧ t ≤ (8 * n + 4) / 5) (fun i => (8 * n + 4) / 5 - (intOf i).toNat)
    case atStart => exact ⟨0, rfl, Nat.zero_le _⟩
    case round =>
      obtain ⟨t, rfl, ht⟩ := hrel
      by_cases hlt : t < (8 * n + 4) / 5
      · have hcg : wA.cell? ⟨g, t, none⟩ = some (.int .u8 (Pl.grp zs t)) := ho.2 t hlt
        go_wp2
        go_loop [8, 9] (fun v i => ∃ k : Nat, i = .int .i64 k ∧ k ≤ 5 ∧ v = .int .u8 (Pl.pv zs t k)) (fun _ i => 5 - (intOf i).toNat)
        case atStart => exact ⟨0, rfl, Nat.zero_le _, rfl⟩
        case round =>
          obtain ⟨k, rfl, hk, rfl⟩ := hrel
          by_cases hk5 : k < 5
          · have hpb := Pl.pv_bd zs t k hk
            go_wp2_with fail
            rw [show (5 * (t : Int) + (k : Int)) = ((5 * t + k : Nat) : Int) from by omega]
            refine (bit_any _ _ _ _ zs _ hra2 (by omega) (by omega)).mono ?_
            rintro e w' ⟨rfl, rfl⟩
            go_wp2
            go_round
            case rel =>
              refine ⟨k + 1, by go_num, by omega, ?_⟩
              rw [or_bit _ _ hpb (Pl.bitAt_01 zs _)]
              rfl
            case measure => simp [intOf]; omega
          · obtain rfl : k = 5 := by omega
            rw [Pl.pv_five]
            go_wp2
            go_round
            case rel => exact ⟨t + 1, by go_num, by omega⟩
            case measure => simp [intOf]; omega
      · go_wp2
        go_ret
        exact ⟨rfl, hb2⟩

theorem bits_early (a0 : Option Addr) (n c : Nat) (w : World) (h0 : n ≤ maxLen) (h : 1048576 < n) :
    Calls Try.prog 3 #[.slice a0 n c] w fun e w' => e = .returned (.bool true) ∧ Below w.heap.size w w' := by
  have hbb : decide (n ≤ 1048576) = false := by simp; omega
  go_enter Try.func3, Try.ntmps3
  go_wp2_with (go_at_call 5; refine (bytes1_any _ _ _ _ h0).mono ?_; rintro e w' ⟨rfl, rfl⟩)
  go_ret
  exact ⟨rfl, Below.refl _ _⟩
end Go.Proofs.Qxb6630817a
