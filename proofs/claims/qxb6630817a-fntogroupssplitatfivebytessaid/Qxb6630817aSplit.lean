/-
  The walk of FnToGroupsSplitAtFiveBytes (function 4). Seat b6630817a.
-/
import Derived.Test.Qxb6630817aCopy
import Derived.Deep.Cut
import Derived.Deep.QuietTactic
import Derived.BigQuiet
import Derived.WalkSmall
namespace Go.Proofs.Qxb6630817a
open Go.RowKit
set_option linter.unusedVariables false

theorem take_more (za : List Int) (k : Nat) (h : k < za.length) : (za.take (k + 1)).map (Value.int .u8) = (za.take k).map (Value.int .u8) ++ [.int .u8 za[k]] := by
  rw [List.take_succ_eq_append_getElem h, List.map_append]; rfl
theorem take_more2 (za zb : List Int) (k : Nat) (h : k < zb.length) : (za ++ zb.take (k + 1)).map (Value.int .u8) = (za ++ zb.take k).map (Value.int .u8) ++ [.int .u8 zb[k]] := by
  rw [List.take_succ_eq_append_getElem h, List.map_append, List.map_append, List.map_append, List.append_assoc]; rfl

theorem row_of_own {w w0 : World} {base g k j : Nat} {a a' : Option Addr} {za zb : List Int} (h : w.ownsRow base 5 1 (.slice (some ⟨g, 0, none⟩) (k + j) (k + j)) (k + j) ((za ++ zb.take j).map (Value.int .u8)))
    (ha : Row w0 a k za) (hb : Row w0 a' j zb) : Row w (some ⟨g, 0, none⟩) (k + j) (za ++ zb) := by
  have hla := ha.1
  have hlb := hb.1
  rw [List.take_of_length_le (by omega)] at h
  refine ⟨by simp [hla, hlb], ?_, .inr ⟨g, 0, rfl, (h.lt g rfl).2, ?_⟩⟩
  · intro i
    by_cases hi : i < za.length
    · have := ha.2.1 i
      simp only [List.getD, List.getElem?_append_left hi] at this ⊢; exact this
    · have := hb.2.1 (i - za.length)
      simp only [List.getD, List.getElem?_append_right (Nat.le_of_not_lt hi)] at this ⊢; exact this
  · intro i hi
    rw [Nat.zero_add, h.cellAt i (by omega)]
    have : i < (za ++ zb).length := by simp; omega
    simp only [List.getElem?_map, List.getD, List.getElem?_eq_getElem this]
    rfl

set_option maxRecDepth 100000 in
set_option maxHeartbeats 1000000 in
theorem split_main (a0 a1 : Option Addr) (la ca lb cb : Nat) (za zb : List Int) (w : World) (h0 : Row w a0 la za) (h1 : Row w a1 lb zb) (hca : ca ≤ maxLen)
    (hla : la ≤ 524288) (hlb : lb ≤ 524288) (h5 : la % 5 = 0) :
    Calls Try.prog 4 #[.slice a0 la ca, .slice a1 lb cb] w fun e w' => e = .returned (.bool true) ∧ Below w.heap.size w w' := by
  obtain ⟨i0, hi, hz0, hz1, hz2⟩ := info_parts Try.info5
  have hne := fun (w : World) (a : Option Addr) (n c : Nat) => run_neq_slice_nil_any (P := Try.prog) w 22 5 a n c 0 0 Try.underlying22
  have hbb : decide (la + lb ≤ 1048576) = true := by simp; omega
  go_enter Try.func4, Try.ntmps4
  go_upto_if 30 with (first | (go_at_call 8; refine (bytes2_any _ _ _ _ _ _ _ (by unfold maxLen; omega) (by unfold maxLen; omega)).mono ?_; rintro e w' ⟨rfl, rfl⟩))
  go_cut [0] from 15 (fun va wx => ∃ a c, va = .slice a la c ∧ Row wx a la za ∧ Below w.heap.size w wx)
  case first =>
    cases a0 with
    | none =>
      go_wp2
      go_meet
      case rel => exact ⟨_, _, rfl, h0, Below.refl _ _⟩
    | some ad =>
      go_wp2_with (at_make; refine wpList_make_full _ rfl _ _ 22 rfl w.heap.size 5 i0 (.int .u8 0) 1 Try.underlying22 hi hz0 hz1 _ _ _ _ la rfl rfl rfl rfl ?c1 ?c2 ?c3 ?_)
      case c1 => rw [hz2]; omega
      case c2 => unfold maxLen; omega
      case c3 => exact Nat.le_refl _
      intro w1 hown hgrow
      have hbel : Below w.heap.size w w1 := (Below.refl _ _).grown hgrow (Nat.le_refl _) (fun k h => by cases h)
      obtain ⟨w3, hcp, hr3, hb3⟩ := copy_run w1 w.heap.size w.heap.size la ca (some ad) za _ (h0.later hbel) hown
      have hbel3 := hb3 w.heap.size w (Nat.le_refl _) hbel
      clear hb3 hown hgrow hbel
      go_wp2
      go_meet
      case rel => exact ⟨_, _, rfl, hr3, hbel3⟩
  case rest =>
    obtain ⟨a, ca', rfl, hra, hbel⟩ := hcut
    have hrb := h1.later hbel
    clear h0 h1
    go_upto_if 39 with fail
    go_cut [1] from 15 (fun vb wx => ∃ a' c, vb = .slice a' lb c ∧ Row wx a' lb zb ∧ Row wx a la za ∧ Below w.heap.size w wx)
    case first =>
      cases a1 with
      | none =>
        go_wp2
        go_meet
        case rel => exact ⟨_, _, rfl, hrb, hra, hbel⟩
      | some ad =>
        go_wp2_with (at_make; refine wpList_make_full _ rfl _ _ 22 rfl wc.heap.size 5 i0 (.int .u8 0) 1 Try.underlying22 hi hz0 hz1 _ _ _ _ lb rfl rfl rfl rfl ?c1 ?c2 ?c3 ?_)
        case c1 => rw [hz2]; omega
        case c2 => unfold maxLen; omega
        case c3 => exact Nat.le_refl _
        intro w1 hown hgrow
        have hbel1 : Below wc.heap.size wc w1 := (Below.refl _ _).grown hgrow (Nat.le_refl _) (fun k h => by cases h)
        obtain ⟨w3, hcp, hr3, hb3⟩ := copy_run w1 wc.heap.size wc.heap.size lb cb (some ad) zb _ (hrb.later hbel1) hown
        have hbel3 := hb3 wc.heap.size wc (Nat.le_refl _) hbel1
        clear hb3 hown hgrow
        go_wp2
        go_meet
        case rel => exact ⟨_, _, rfl, hr3, hra.later hbel3, hbel.trans (hbel3.mono hbel.size)⟩
    case rest =>
      clear hrb hra hbel
      obtain ⟨a', cb', rfl, hrb, hra, hbel⟩ := hcut
      go_wp2_with (at_make; refine wpList_make_own _ rfl _ _ 22 rfl wc.heap.size 5 i0 (.int .u8 0) 1 Try.underlying22 hi hz0 hz1 _ _ _ (la + lb) rfl rfl (by omega) ?c1 ?c2 ?c3 ?_)
      case c1 => rw [hz2]; omega
      case c2 => unfold maxLen; omega
      case c3 => exact Nat.le_refl _
      intro w1 hown hgrow
      have hb1 : Below wc.heap.size wc w1 := (Below.refl _ _).grown hgrow (Nat.le_refl _) (fun k h => by cases h)
      clear hgrow
      go_wp2
      go_loopw [7, 8] (fun v i wr => ∃ k : Nat, k ≤ la ∧ i = .int .i64 k ∧ v = .slice (some ⟨wc.heap.size, 0, none⟩) k (la + lb) ∧ wr.ownsRow wc.heap.size 5 1 (.slice (some ⟨wc.heap.size, 0, none⟩) k (la + lb)) k ((za.take k).map (Value.int .u8)) ∧ Below wc.heap.size wc wr)
        (fun _ i _ => la - (intOf i).toNat)
      case atStart => exact ⟨0, Nat.zero_le _, rfl, rfl, hown, hb1⟩
      case round =>
        clear hown hb1
        obtain ⟨k, hk, rfl, rfl, hown, hb1⟩ := hrel
        by_cases hlt : k < la
        · rcases hra with ⟨hl, hB, h | ⟨b, o, rfl, hblt, hc⟩⟩
          · omega
          have hcx : wr.cell? ⟨b, o + k, none⟩ = some (.int .u8 (za.getD k 0)) := (hb1.cell (by exact hblt)).trans (hc k hlt)
          have hs := hb1.size
          have hlk : k < za.length := by omega
          have htk : Hid ((za.take (k + 1)).map (Value.int .u8) = (za.take k).map (Value.int .u8) ++ [.int .u8 za[k]]) := take_more za k hlk
          go_wp2_with (at_builtin; refine wpList_append_fits _ rfl (.tmp 59) (.tmp 64) 22 rfl wc.heap.size 5 i0 1 Try.underlying22 hi hz1 wc.heap.size k (la + lb) _ rfl (hown.alloc _) ⟨wr.heap.size, 0, none⟩ 1 1 [.int .u8 za[k]] rfl rfl (cell_one_new _ _ _) (by intro u hu; simp at hu; subst hu; rfl) (by omega) ?_; intro w2 hown2 hgrow2)
          have hown3 : w2.ownsRow wc.heap.size 5 1 (.slice (some ⟨wc.heap.size, 0, none⟩) (k + 1) (la + lb)) (k + 1) ((za.take (k + 1)).map (Value.int .u8)) := by rw [htk.out]; exact hown2
          have hbel3 : Below wc.heap.size wc w2 := (hb1.alloc hs _).grown hgrow2 (by simp; omega) (fun k h => by cases h; exact Nat.le_refl _)
          clear hown2 hgrow2 hown hb1 hcx htk
          go_wp2
          go_roundw
          case rel => exact ⟨k + 1, by omega, by go_num, rfl, hown3, hbel3⟩
          case measure => simp [intOf]; omega
        · have hkl : k = la := by omega
          subst hkl
          have hown' : wr.ownsRow wc.heap.size 5 1 (.slice (some ⟨wc.heap.size, 0, none⟩) k (k + lb)) k (za.map (Value.int .u8)) := by
            rw [List.take_of_length_le (by rw [hra.1]; exact Nat.le_refl _)] at hown; exact hown
          clear hown
          go_wp2
          go_loopw [7, 9] (fun v i wr => ∃ j : Nat, j ≤ lb ∧ i = .int .i64 j ∧ v = .slice (some ⟨wc.heap.size, 0, none⟩) (k + j) (k + lb) ∧ wr.ownsRow wc.heap.size 5 1 (.slice (some ⟨wc.heap.size, 0, none⟩) (k + j) (k + lb)) (k + j) ((za ++ zb.take j).map (Value.int .u8)) ∧ Below wc.heap.size wc wr)
            (fun _ i _ => lb - (intOf i).toNat)
          case atStart => exact ⟨0, Nat.zero_le _, rfl, rfl, by simpa using hown', hb1⟩
          case round =>
            clear hown' hb1
            obtain ⟨j, hj, rfl, rfl, hown, hb1⟩ := hrel
            have hs := hb1.size
            by_cases hlt : j < lb
            · rcases hrb with ⟨hl, hB, h | ⟨b, o, rfl, hblt, hc⟩⟩
              · omega
              have hcx : wr.cell? ⟨b, o + j, none⟩ = some (.int .u8 (zb.getD j 0)) := (hb1.cell (by exact hblt)).trans (hc j hlt)
              have hlk : j < zb.length := by omega
              have htk : Hid ((za ++ zb.take (j + 1)).map (Value.int .u8) = (za ++ zb.take j).map (Value.int .u8) ++ [.int .u8 zb[j]]) := take_more2 za zb j hlk
              go_wp2_with (at_builtin; refine wpList_append_fits _ rfl (.tmp 72) (.tmp 77) 22 rfl wc.heap.size 5 i0 1 Try.underlying22 hi hz1 wc.heap.size (k + j) (k + lb) _ rfl (hown.alloc _) ⟨wr.heap.size, 0, none⟩ 1 1 [.int .u8 zb[j]] rfl rfl (cell_one_new _ _ _) (by intro u hu; simp at hu; subst hu; rfl) (by omega) ?_; intro w2 hown2 hgrow2)
              have hown3 : w2.ownsRow wc.heap.size 5 1 (.slice (some ⟨wc.heap.size, 0, none⟩) (k + (j + 1)) (k + lb)) (k + (j + 1)) ((za ++ zb.take (j + 1)).map (Value.int .u8)) := by rw [htk.out]; exact hown2
              have hbel3 : Below wc.heap.size wc w2 := (hb1.alloc hs _).grown hgrow2 (by simp; omega) (fun k h => by cases h; exact Nat.le_refl _)
              clear hown2 hgrow2 hown hb1 hcx htk
              go_wp2
              go_roundw
              case rel => exact ⟨j + 1, by omega, by go_num, rfl, hown3, hbel3⟩
              case measure => simp [intOf]; omega
            · have hjl : j = lb := by omega
              subst hjl
              have hrab : Row wr (some ⟨wc.heap.size, 0, none⟩) (k + j) (za ++ zb) := row_of_own hown hra hrb
              have hra' := hra.later hb1
              have hrb' := hrb.later hb1
              have hbel' : Below w.heap.size w wr := hbel.trans (hb1.mono hbel.size)
              clear hown hb1 hra hrb hbel
              go_wp2_with fail
              refine (ZZ_any _ _ _ (za ++ zb) _ hrab (by omega)).mono ?_
              rintro e wA ⟨gw, cw, rfl, hgw, how, hbw⟩
              have hra2 := hra'.later hbw
              have hrb2 := hrb'.later hbw
              have hbA : Below w.heap.size w wA := hbel'.trans (hbw.mono hbel'.size)
              clear hra' hrb' hrab hbw hbel'
              go_wp2_with fail
              refine (ZZ_any _ _ _ za _ hra2 (by omega)).mono ?_
              rintro e wB ⟨ga, cga, rfl, hga, hoa, hba⟩
              have how2 := how.later hba
              have hrb3 := hrb2.later hba
              have hbB : Below w.heap.size w wB := hbA.trans (hba.mono hbA.size)
              clear how hrb2 hba hbA
              go_wp2_with fail
              refine (ZZ_any _ _ _ zb _ hrb3 (by omega)).mono ?_
              rintro e wC ⟨gb, cgb, rfl, hgb, hob, hbc⟩
              have how3 := how2.later hbc
              have hoa3 := hoa.later hbc
              have hbC : Below w.heap.size w wC := hbB.trans (hbc.mono hbB.size)
              have hlza := hra2.1
              clear how2 hoa hbc hbB hra2 hrb3 hgw hga hgb
              go_wp2
              go_loopw [13] (fun i wr => ∃ t nq : Nat, i = .int .i64 t ∧ t ≤ (8 * k + 4) / 5 ∧ wr = wC.drewN nq) (fun i _ => (8 * k + 4) / 5 - (intOf i).toNat)
              case atStart => exact ⟨0, 0, rfl, Nat.zero_le _, rfl⟩
              case round =>
                obtain ⟨t, nq, rfl, ht, rfl⟩ := hrel
                by_cases hlt : t < (8 * k + 4) / 5
                · have hcw : wC.cell? ⟨gw, t, none⟩ = some (.int .u8 (Pl.grp za t)) := by
                    rw [how3.2 t (by omega), Pl.grp_left za zb t (by omega)]
                  have hca : wC.cell? ⟨ga, t, none⟩ = some (.int .u8 (Pl.grp za t)) := hoa3.2 t hlt
                  have hi1 : (t : Int) < (8 * ((k : Int) + (j : Int)) + 4) / 5 := by omega
                  have hi2 : (t : Int) < (8 * (k : Int) + 4) / 5 := by omega
                  go_wp2
                  go_quiet (fail)
                  go_wp2
                  go_roundw
                  case rel => exact ⟨t + 1, _, by go_num, by omega, rfl⟩
                  case measure => simp [intOf]; omega
                · go_wp2
                  clear hlt
                  go_loopw [4, 14] (fun v i wr => ∃ s nq : Nat, i = .int .i64 s ∧ s ≤ (8 * j + 4) / 5 ∧ wr = wC.drewN nq) (fun _ i _ => (8 * j + 4) / 5 - (intOf i).toNat)
                  case atStart => exact ⟨0, nq, rfl, Nat.zero_le _, rfl⟩
                  case round =>
                    obtain ⟨s, nq', rfl, hs, rfl⟩ := hrel
                    by_cases hlt : s < (8 * j + 4) / 5
                    · have hcw : wC.cell? ⟨gw, (8 * k + 4) / 5 + s, none⟩ = some (.int .u8 (Pl.grp zb s)) := by
                        rw [how3.2 _ (by omega), Pl.grp_right za zb _ s (by omega)]
                      have hca : wC.cell? ⟨gb, s, none⟩ = some (.int .u8 (Pl.grp zb s)) := hob.2 s hlt
                      have hi1 : (8 * (k : Int) + 4) / 5 + (s : Int) < (8 * ((k : Int) + (j : Int)) + 4) / 5 := by omega
                      have hi2 : (s : Int) < (8 * (j : Int) + 4) / 5 := by omega
                      go_wp2
                      go_quiet (fail)
                      go_wp2
                      go_roundw
                      case rel => exact ⟨s + 1, _, by go_num, by omega, rfl⟩
                      case measure => simp [intOf]; omega
                    · go_wp2
                      go_ret
                      exact ⟨rfl, below_drewN hbC _⟩
set_option maxRecDepth 100000 in
theorem split_early (a0 a1 : Option Addr) (la ca lb cb : Nat) (w : World) (h0 : la ≤ maxLen) (h1 : lb ≤ maxLen) (h : 524288 < la ∨ 524288 < lb ∨ la % 5 ≠ 0) :
    Calls Try.prog 4 #[.slice a0 la ca, .slice a1 lb cb] w fun e w' => e = .returned (.bool true) ∧ Below w.heap.size w w' := by
  by_cases hb : la + lb ≤ 1048576
  · have hbb : decide (la + lb ≤ 1048576) = true := by simp; omega
    by_cases ha : 524288 < la
    · go_enter Try.func4, Try.ntmps4
      go_wp2_with (go_at_call 8; refine (bytes2_any _ _ _ _ _ _ _ h0 h1).mono ?_; rintro e w' ⟨rfl, rfl⟩)
      go_ret
      exact ⟨rfl, Below.refl _ _⟩
    · by_cases hl : 524288 < lb
      · go_enter Try.func4, Try.ntmps4
        go_wp2_with (go_at_call 8; refine (bytes2_any _ _ _ _ _ _ _ h0 h1).mono ?_; rintro e w' ⟨rfl, rfl⟩)
        go_ret
        exact ⟨rfl, Below.refl _ _⟩
      · have h5 : ((la : Int) % 5 != 0) = true := by simp; omega
        go_enter Try.func4, Try.ntmps4
        go_wp2_with (go_at_call 8; refine (bytes2_any _ _ _ _ _ _ _ h0 h1).mono ?_; rintro e w' ⟨rfl, rfl⟩)
        go_ret
        exact ⟨rfl, Below.refl _ _⟩
  · have hbb : decide (la + lb ≤ 1048576) = false := by simp; omega
    go_enter Try.func4, Try.ntmps4
    go_wp2_with (go_at_call 8; refine (bytes2_any _ _ _ _ _ _ _ h0 h1).mono ?_; rintro e w' ⟨rfl, rfl⟩)
    go_ret
    exact ⟨rfl, Below.refl _ _⟩
end Go.Proofs.Qxb6630817a
