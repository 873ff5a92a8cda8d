/-
  The walk of toGroups (function 9) and ZZtoGroups (function 6), seat b6630817a.
-/
import Derived.Test.Qxb6630817aProg
import Derived.Test.Qxb6630817aPlain
import Derived.WalkKit
import Derived.WalkSpells
import Derived.Laws.BitsAllLaws
namespace Go.Proofs.Qxb6630817a
open Go.RowKit
set_option linter.unusedVariables false

theorem Try.info5 : (Try.prog.info? 5).map (fun i => (i.zero, i.size, i.bytes)) = some (some (.int .u8 0), 1, 1) := by kernel_rfl

/-- The slice's n elements read zs. -/
def Row (w : World) (a : Option Addr) (n : Nat) (zs : List Int) : Prop :=
  zs.length = n ∧ Pl.Bytes zs ∧ (n = 0 ∨ ∃ b o, a = some ⟨b, o, none⟩ ∧ b < w.heap.size ∧ ∀ i, i < n → w.cell? ⟨b, o + i, none⟩ = some (.int .u8 (zs.getD i 0)))

theorem or_byte (A z : Int) (hz : 0 ≤ z ∧ z ≤ 255) : bits .or .u32 (A * 256 % 4294967296) (z % 4294967296) = A * 256 % 4294967296 + z := by
  have h : 0 ≤ A * 256 % 4294967296 ∧ A * 256 % 4294967296 < 4294967296 := by omega
  rw [show z % 4294967296 = z by omega, u32_or _ _ h.1 h.2 hz.1 (by omega), nat_join 8 _ _ (by simp; omega) (by simp; omega)]
  omega

/-- What one group more does to what is owned. -/
theorem own_more {w w' : World} {base g0 cap g : Nat} {zs : List Int} {v : Int} (h : w'.ownsRow base 5 1 (.slice (some ⟨g0, 0, none⟩) (g + 1) cap) (g + 1) ((Pl.grps zs g).map (Value.int .u8) ++ [.int .u8 v]))
    (e : v = Pl.grp zs g) : w'.ownsRow base 5 1 (.slice (some ⟨g0, 0, none⟩) (g + 1) cap) (g + 1) ((Pl.grps zs (g + 1)).map (Value.int .u8)) := by
  rw [Pl.grps_succ, List.map_append, ← e]; exact h

set_option maxHeartbeats 400000 in
theorem toGroups_some (b0 o0 : Nat) (n c : Nat) (zs : List Int) (w : World) (hl : zs.length = n) (hB : Pl.Bytes zs) (hb0 : b0 < w.heap.size)
    (hc : ∀ i, i < n → w.cell? ⟨b0, o0 + i, none⟩ = some (.int .u8 (zs.getD i 0))) (hn : n ≤ 1048576) :
    Calls Try.prog 9 #[.slice (some ⟨b0, o0, none⟩) n c] w fun e w' => ∃ g cap, e = .returned (.slice (some ⟨g, 0, none⟩) ((8 * n + 4) / 5) cap) ∧
      (∀ i, i < (8 * n + 4) / 5 → w'.cell? ⟨g, i, none⟩ = some (.int .u8 (Pl.grp zs i))) ∧ w.heap.size ≤ g ∧ g < w'.heap.size ∧ Below w.heap.size w w' := by
  obtain ⟨i0, hi, hz0, hz1, hz2⟩ := info_parts Try.info5
  go_enter Try.func9, Try.ntmps9
  go_wp2_with (at_make; refine wpList_make_own _ rfl _ _ 22 rfl w.heap.size 5 i0 (.int .u8 0) 1 Try.underlying22 hi hz0 hz1 _ _ _ ((8 * n + 4) / 5) rfl rfl (by omega) ?c1 ?c2 ?c3 ?_)
  case c1 => rw [hz2]; omega
  case c2 => unfold maxLen; omega
  case c3 => exact Nat.le_refl _
  intro w1 hown hgrow
  have hbel : Below w.heap.size w w1 := (Below.refl _ _).grown hgrow (Nat.le_refl _) (fun k h => by cases h)
  clear hgrow
  go_wp2
  go_loopw [3, 4, 5, 16] (fun v acc bits i wr => ∃ k g b : Nat, ∃ A : Int, k ≤ n ∧ i = .int .i64 k ∧ acc = .int .u32 A ∧ 0 ≤ A ∧ A < 4294967296 ∧ bits = .int .u64 b ∧ b < 5 ∧ 8 * k ≤ 5 * g + b ∧ 5 * g + b ≤ 8 * k ∧
      Hid (Pl.Pend zs k b A) ∧ v = .slice (some ⟨w.heap.size, 0, none⟩) g ((8 * n + 4) / 5) ∧ wr.ownsRow w.heap.size 5 1 (.slice (some ⟨w.heap.size, 0, none⟩) g ((8 * n + 4) / 5)) g ((Pl.grps zs g).map (Value.int .u8)) ∧ Below w.heap.size w wr)
    (fun _ _ _ i _ => n - (intOf i).toNat)
  case atStart => exact ⟨0, 0, 0, 0, Nat.zero_le _, rfl, rfl, by omega, by omega, rfl, by omega, by omega, by omega, Pl.pend_zero zs 0, rfl, hown, hbel⟩
  case round =>
    clear hown hbel
    obtain ⟨k, g, b, A, hk, rfl, rfl, hA0, hA1, rfl, hb5, hg1, hg2, hP, rfl, hown, hbel⟩ := hrel
    have hz := hB k
    by_cases hlt : k < n
    · have hcx : wr.cell? ⟨b0, o0 + k, none⟩ = some (.int .u8 (zs.getD k 0)) := (hbel.cell (by exact hb0)).trans (hc k hlt)
      have hlk : k < zs.length := by omega
      go_wp2
      have hzk : zs.getD k 0 = zs[k] := by simp [List.getD, hlk]
      rw [hzk] at hz
      rw [or_byte A zs[k] hz]
      have hP' : Hid (Pl.Pend zs (k + 1) (b + 8) (A * 256 % 4294967296 + zs[k])) := Pl.pend_byte hP.out (by omega) hzk.symm hlk hz.1 hz.2 (by omega)
      have hA0' : 0 ≤ A * 256 % 4294967296 + zs[k] := by omega
      have hA1' : A * 256 % 4294967296 + zs[k] < 4294967296 := by omega
      generalize A * 256 % 4294967296 + zs[k] = A' at hP' hA0' hA1' ⊢
      clear hcx
      go_loopw [3, 5] (fun v bits wr => ∃ g b : Nat, bits = .int .u64 b ∧ b < 13 ∧ 8 * (k + 1) ≤ 5 * g + b ∧ 5 * g + b ≤ 8 * (k + 1) ∧
          Hid (Pl.Pend zs (k + 1) b A') ∧ v = .slice (some ⟨w.heap.size, 0, none⟩) g ((8 * n + 4) / 5) ∧ wr.ownsRow w.heap.size 5 1 (.slice (some ⟨w.heap.size, 0, none⟩) g ((8 * n + 4) / 5)) g ((Pl.grps zs g).map (Value.int .u8)) ∧ Below w.heap.size w wr)
        (fun _ b _ => (intOf b).toNat)
      case atStart => exact ⟨g, b + 8, by go_num, by omega, by omega, by omega, hP', rfl, hown, hbel⟩
      case round =>
        clear hown hbel hP' hP hg1 hg2 hb5
        obtain ⟨g, b, rfl, hb, hg1, hg2, hP, rfl, hown, hbel⟩ := hrel
        by_cases h5 : 5 ≤ b
        · obtain ⟨b, rfl⟩ : ∃ b', b = b' + 5 := ⟨b - 5, by omega⟩
          go_wp2_with (at_builtin; refine wpList_append_fits _ rfl (.tmp 31) (.tmp 37) 22 rfl w.heap.size 5 i0 1 Try.underlying22 hi hz1 w.heap.size g ((8 * n + 4) / 5) _ rfl (hown.alloc _) ⟨wr.heap.size, 0, none⟩ 1 1 [.int .u8 (A' / 2 ^ b % 32)] rfl rfl (cell_one_new _ _ _) (by intro u hu; simp at hu; subst hu; rfl) (by omega) ?_; intro w2 hown2 hgrow2)
          have hgp := Pl.pend_group hP.out (g := g) (by omega)
          have hs := hbel.size
          have hown3 := own_more (w := wr) hown2 hgp
          have hbel3 : Below w.heap.size w w2 := (hbel.alloc hs _).grown hgrow2 (by simp; omega) (fun k h => by cases h; exact Nat.le_refl _)
          clear hown2 hgrow2 hown hbel
          go_roundw
          case rel => exact ⟨g + 1, b, by go_num, by omega, by omega, by omega, Pl.pend_mono hP.out (by omega), rfl, hown3, hbel3⟩
          case measure => simp [intOf]; omega
        · go_wp2
          go_roundw
          case rel => exact ⟨k + 1, g, b, A', by omega, by go_num, rfl, hA0', hA1', rfl, by omega, by omega, by omega, hP, rfl, hown, hbel⟩
          case measure => simp [intOf]; omega
    · have hkn : k = n := by omega
      have Hkn : Hid (k = n) := hkn
      clear hkn
      have hs := hbel.size
      have hlt0 := hown.lt w.heap.size rfl
      by_cases hb0 : 0 < b
      · go_wp2_with (at_builtin; refine wpList_append_fits _ rfl (.tmp 42) (.tmp 49) 22 rfl w.heap.size 5 i0 1 Try.underlying22 hi hz1 w.heap.size g ((8 * n + 4) / 5) _ rfl (hown.alloc _) ⟨wr.heap.size, 0, none⟩ 1 1 [.int .u8 (A * 2 ^ (5 - b) % 32)] rfl rfl (cell_one_new _ _ _) (by intro u hu; simp at hu; subst hu; rfl) (by omega) ?_; intro w2 hown2 hgrow2)
        go_ret
        have hgp : A * 2 ^ (5 - b) % 32 = Pl.grp zs g := by
          rw [← Pl.pend_last hP.out hb0 hb5 (by have := Hkn.out; omega) (by omega)]; omega
        have hown3 := own_more (w := wr) hown2 hgp
        refine ⟨w.heap.size, (8 * n + 4) / 5, ?_, ?_, Nat.le_refl _, ?_, ?_⟩
        · have := Hkn.out
          rw [show g + 1 = (8 * n + 4) / 5 by omega]
          rfl
        · intro i hi'
          have := Hkn.out
          rw [hown3.cellAt i (by omega)]
          simp [Pl.grps_get zs (g + 1) i (by omega)]
        · have := hgrow2.size; simp at this; omega
        · exact (hbel.alloc hs _).grown hgrow2 (by simp; omega) (fun k h => by cases h; exact Nat.le_refl _)
      · go_wp2
        go_ret
        refine ⟨w.heap.size, (8 * n + 4) / 5, ?_, ?_, Nat.le_refl _, by omega, hbel⟩
        · have := Hkn.out
          rw [show g = (8 * n + 4) / 5 by omega]
          rfl
        · intro i hi'
          have := Hkn.out
          rw [hown.cellAt i (by omega)]
          simp [Pl.grps_get zs g i (by omega)]

/-- What toGroups hands back: a row of groups in a new block. -/
def Out (w' : World) (g m : Nat) (zs : List Int) : Prop := g < w'.heap.size ∧ ∀ i, i < m → w'.cell? ⟨g, i, none⟩ = some (.int .u8 (Pl.grp zs i))

theorem Row.later {w w' : World} {a : Option Addr} {n : Nat} {zs : List Int} (h : Row w a n zs) (hb : Below w.heap.size w w') : Row w' a n zs := by
  refine ⟨h.1, h.2.1, ?_⟩
  rcases h.2.2 with h0 | ⟨b, o, e, hlt, hc⟩
  · exact .inl h0
  · exact .inr ⟨b, o, e, Nat.lt_of_lt_of_le hlt hb.size, fun i hi => (hb.cell (p := ⟨b, o + i, none⟩) hlt).trans (hc i hi)⟩

theorem Out.later {w w' : World} {g m : Nat} {zs : List Int} (h : Out w g m zs) (hb : Below w.heap.size w w') : Out w' g m zs :=
  ⟨Nat.lt_of_lt_of_le h.1 hb.size, fun i hi => (hb.cell (p := ⟨g, i, none⟩) h.1).trans (h.2 i hi)⟩

set_option maxHeartbeats 400000 in
theorem toGroups_zero (a : Option Addr) (c : Nat) (w : World) :
    Calls Try.prog 9 #[.slice a 0 c] w fun e w' => ∃ g cap, e = .returned (.slice (some ⟨g, 0, none⟩) 0 cap) ∧ w.heap.size ≤ g ∧ g < w'.heap.size ∧ Below w.heap.size w w' := by
  obtain ⟨i0, hi, hz0, hz1, hz2⟩ := info_parts Try.info5
  go_enter Try.func9, Try.ntmps9
  go_wp2_with (at_make; refine wpList_make_own _ rfl _ _ 22 rfl w.heap.size 5 i0 (.int .u8 0) 1 Try.underlying22 hi hz0 hz1 _ _ _ 0 rfl rfl (by omega) ?c1 ?c2 ?c3 ?_)
  case c1 => rw [hz2]; omega
  case c2 => unfold maxLen; omega
  case c3 => exact Nat.le_refl _
  intro w1 hown hgrow
  have hbel : Below w.heap.size w w1 := (Below.refl _ _).grown hgrow (Nat.le_refl _) (fun k h => by cases h)
  have hlt0 := hown.lt w.heap.size rfl
  clear hgrow hown
  go_wp2
  go_loopw [3, 5, 16] (fun v bits i wr => v = .slice (some ⟨w.heap.size, 0, none⟩) 0 0 ∧ bits = .int .u64 0 ∧ i = .int .i64 0 ∧ wr = w1) (fun _ _ _ _ => 0)
  case atStart => exact ⟨rfl, rfl, rfl, rfl⟩
  case round =>
    obtain ⟨rfl, rfl, rfl, rfl⟩ := hrel
    go_wp2
    go_ret
    exact ⟨_, _, rfl, Nat.le_refl _, hlt0.2, hbel⟩

theorem toGroups_any (a : Option Addr) (n c : Nat) (zs : List Int) (w : World) (hr : Row w a n zs) (hn : n ≤ 1048576) :
    Calls Try.prog 9 #[.slice a n c] w fun e w' => ∃ g cap, e = .returned (.slice (some ⟨g, 0, none⟩) ((8 * n + 4) / 5) cap) ∧ w.heap.size ≤ g ∧ Out w' g ((8 * n + 4) / 5) zs ∧ Below w.heap.size w w' := by
  obtain ⟨hl, hB, h⟩ := hr
  rcases h with rfl | ⟨b, o, rfl, hlt, hc⟩
  · refine (toGroups_zero a c w).mono ?_
    rintro e w' ⟨g, cap, rfl, h1, h2, h3⟩
    exact ⟨g, cap, rfl, h1, ⟨h2, fun i hi => absurd hi (by omega)⟩, h3⟩
  · refine (toGroups_some b o n c zs w hl hB hlt hc hn).mono ?_
    rintro e w' ⟨g, cap, rfl, h1, h2, h3, h4⟩
    exact ⟨g, cap, rfl, h2, ⟨h3, h1⟩, h4⟩

theorem ZZ_any (a : Option Addr) (n c : Nat) (zs : List Int) (w : World) (hr : Row w a n zs) (hn : n ≤ 1048576) :
    Calls Try.prog 6 #[.slice a n c] w fun e w' => ∃ g cap, e = .returned (.slice (some ⟨g, 0, none⟩) ((8 * n + 4) / 5) cap) ∧ w.heap.size ≤ g ∧ Out w' g ((8 * n + 4) / 5) zs ∧ Below w.heap.size w w' := by
  go_enter Try.func6, Try.ntmps6
  go_wp2_with fail
  refine (toGroups_any a n c zs _ hr hn).mono ?_
  rintro e w' ⟨g, cap, rfl, h1, h2, h3⟩
  go_wp2
  go_ret
  exact ⟨g, cap, rfl, h1, h2, h3⟩

end Go.Proofs.Qxb6630817a
