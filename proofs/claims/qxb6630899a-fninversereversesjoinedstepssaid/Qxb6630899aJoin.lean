/-
  The walk of FnInverseReversesJoinedSteps (4). Seat b6630899a.
-/
import Derived.Test.Qxb6630899aTwice
import Derived.Test.Qxb6630899aBytesK
import Derived.Test.Qxb6630899aEq
import Derived.Test.Qxb6630899aPlain2
namespace Go.Proofs.Qxb6630899a
open Go.RowKit
set_option linter.unusedVariables false
attribute [local go_sem ↓] Go.wp_at_zero Go.wp_at_succ

theorem wrap_in (n : Int) (h0 : -9223372036854775808 ≤ n) (h1 : n ≤ 9223372036854775807) : IntKind.i64.wrap n = n := by
  simp [IntKind.wrap, IntKind.bits, IntKind.signed]; omega
theorem below_of_drew {w w' : World} (h : Below w.drew.heap.size w.drew w') : Below w.heap.size w w' := ((Below.refl _ _).drew).trans h

/-- toEntry, then Inverse: what a law's slot holds. -/
def InvAt (w : World) (x : Nat) (c1 c2 c3 c4 : ByteArray) (M : List St) : Prop := ∃ a k, EntAt w x c1 c2 c4 c3 (.slice a M.length k) ∧ RowL w a M

theorem InvAt.later {w w' : World} {x : Nat} {c1 c2 c3 c4 : ByteArray} {M : List St} (h : InvAt w x c1 c2 c3 c4 M) (hb : Below w.heap.size w w') : InvAt w' x c1 c2 c3 c4 M := by
  obtain ⟨a, k, h1, h2⟩ := h
  exact ⟨a, k, h1.later hb, h2.later hb⟩

theorem invAt_new {w : World} {a : Option Addr} {M : List St} (c1 c2 c3 c4 : ByteArray) (k : Nat) (h : RowL w a M) : InvAt (w.alloc (.cells #[.string c1, .string c2, .string c4, .string c3, .slice a M.length k] 26)) w.heap.size c1 c2 c3 c4 M :=
  ⟨a, k, entAt_new _ _ _ _ _ _, h.later ((Below.refl _ _).alloc (Nat.le_refl _) _)⟩

set_option maxRecDepth 100000 in
set_option maxHeartbeats 2000000 in
theorem join_any (c1 c2 c3 c4 : ByteArray) (a : Option Addr) (n c : Nat) (z : Int) (L : List St) (w : World) (hl : L.length = n) (hr : RowL w a L) (hp : PathsOk w L) (ha : a = none → n = 0) (hm : c ≤ maxLen) (hcap : n ≤ c) :
    Calls Try.prog 4 #[.string c1, .string c2, .string c3, .string c4, .slice a n c, .int .i64 z] w fun e w' => e = .returned (.bool true) ∧ Below w.heap.size w w' := by
  have cz := zz11_any c1 c2 c3 c4 a n c z L w hl hr hp
  have cs := sizeOK_any c1 c2 c3 c4 a n c L w hl hr hp
  go_enter Try.func4, Try.ntmps4
  go_upto_region 3 with (go_at_call 11; refine cz.mono ?_; rintro e wK ⟨x, rfl, hx, rfl⟩)
  · go_ret
    exact ⟨rfl, Below.refl _ _⟩
  · have hsm := hx (by cases x <;> simp_all)
    have hn : n ≤ 1048576 := hl ▸ hsm.1
    replace cs := cs hsm
    clear hx cz
    go_upto_region 5 with (go_at_call 6; refine cs.mono ?_; rintro e wK ⟨y, rfl, rfl⟩)
    · go_ret
      exact ⟨rfl, Below.refl _ _⟩
    · clear cs
      by_cases hz : z < 0 ∨ (n : Int) < z
      · rcases hz with hz | hz
        · go_wp2
          go_ret
          exact ⟨rfl, Below.refl _ _⟩
        · have hz1 : decide (z < 0) = false := decide_eq_false (by omega)
          go_wp2
          go_ret
          exact ⟨rfl, Below.refl _ _⟩
      · obtain ⟨k, rfl⟩ : ∃ k : Nat, z = k := ⟨z.toNat, by omega⟩
        have hk : k ≤ n := by omega
        clear hz
        go_upto_region 7 with fail
        go_cut [13] from 27 (fun v wx => ∃ x, v = .pointer (some ⟨x, 0, none⟩) ∧ InvAt wx x c1 c2 c3 c4 (invL L 0) ∧ Below w.heap.size w wx)
        case first =>
          have ct := toEntry_any c1 c2 c3 c4 a n c L w hl hr ha hn
          go_wp2_with (first
            | (go_at_call 8; refine (inv_any c1 c2 c3 c4 a1 n k1 L wK hl hr1 hn).mono ?_; rintro e wJ ⟨a2, k2, rfl, hr2, hbJ⟩; simp only [entCells])
            | (go_at_call 7; refine ct.mono ?_; rintro e wK ⟨a1, k1, rfl, hr1, hbK⟩; simp only [entCells]))
          go_meet
          case rel => exact ⟨_, rfl, invAt_new _ _ _ _ _ hr2, (hbK.trans (hbJ.mono hbK.size)).trans ((Below.refl _ _).alloc (Nat.le_trans hbK.size hbJ.size) _)⟩
        case rest =>
          obtain ⟨x3, rfl, h13, hb1⟩ := hcut
          have hr1 := hr.later hb1
          have hp1 := hp.later hb1
          clear hr hp
          go_upto_region 8 with fail
          go_cut [14] from 27 (fun v wx => ∃ x, v = .pointer (some ⟨x, 0, none⟩) ∧ InvAt wx x c1 c2 c3 c4 (invL (L.take k) 0) ∧ Below wc.heap.size wc wx)
          case first =>
            have hlk : (L.take k).length = k := by simp; omega
            have hi1 : (0 : Int) ≤ (k : Int) := by omega
            have hi2 : (k : Int) ≤ (n : Int) := by omega
            have ct := toEntry_any c1 c2 c3 c4 a k c (L.take k) wc hlk (rowL_take k hr1) (fun e => by have := ha e; omega) (by omega)
            have key : ∀ a1 k1 wK, RowL wK a1 (L.take k) → _ := fun a1 k1 wK h => inv_any c1 c2 c3 c4 a1 k k1 (L.take k) wK hlk h (by omega)
            cases a with
            | none =>
              obtain rfl : n = 0 := ha rfl
              obtain rfl : k = 0 := by omega
              go_wp2_with (first
                | (go_at_call 8; refine (key a1 k1 wK hr3).mono ?_; rintro e wJ ⟨a2, k2, rfl, hr2, hbJ⟩; simp only [entCells])
                | (go_at_call 7; refine ct.mono ?_; rintro e wK ⟨a1, k1, rfl, hr3, hbK⟩; simp only [entCells]))
              go_meet
              case rel => exact ⟨_, rfl, invAt_new _ _ _ _ _ hr2, (hbK.trans (hbJ.mono hbK.size)).trans ((Below.refl _ _).alloc (Nat.le_trans hbK.size hbJ.size) _)⟩
            | some ad =>
              go_wp2_with (first
                | (go_at_call 8; refine (key a1 k1 wK hr3).mono ?_; rintro e wJ ⟨a2, k2, rfl, hr2, hbJ⟩; simp only [entCells])
                | (go_at_call 7; refine ct.mono ?_; rintro e wK ⟨a1, k1, rfl, hr3, hbK⟩; simp only [entCells]))
              go_meet
              case rel => exact ⟨_, rfl, invAt_new _ _ _ _ _ hr2, (hbK.trans (hbJ.mono hbK.size)).trans ((Below.refl _ _).alloc (Nat.le_trans hbK.size hbJ.size) _)⟩
          case rest =>
            obtain ⟨x4, rfl, h14, hb2⟩ := hcut
            have hr2 := hr1.later hb2
            have hp2 := hp1.later hb2
            replace h13 := h13.later hb2
            have hbw := hb1.trans (hb2.mono hb1.size)
            clear hr1 hp1 hb1 hb2
            go_upto_region 9 with fail
            go_cut [15] from 27 (fun v wx => ∃ x, v = .pointer (some ⟨x, 0, none⟩) ∧ InvAt wx x c1 c2 c3 c4 (invL (L.drop k) 0) ∧ Below wc.heap.size wc wx)
            case first =>
              have hlk : (L.drop k).length = n - k := by simp; omega
              have hi1 : (0 : Int) ≤ (k : Int) := by omega
              have hi2 : (k : Int) ≤ (n : Int) := by omega
              have key : ∀ a1 k1 wK, RowL wK a1 (L.drop k) → _ := fun a1 k1 wK h => inv_any c1 c2 c3 c4 a1 (n - k) k1 (L.drop k) wK hlk h (by omega)
              cases a with
              | none =>
                obtain rfl : n = 0 := ha rfl
                obtain rfl : k = 0 := by omega
                have ct := toEntry_any c1 c2 c3 c4 none (0 - 0) c (L.drop 0) wc hlk hr2 (fun _ => rfl) (by omega)
                go_wp2_with (first
                  | (go_at_call 8; refine (key a1 k1 wK hr3).mono ?_; rintro e wJ ⟨a2, k2, rfl, hr4, hbJ⟩; simp only [entCells])
                  | (go_at_call 7; refine ct.mono ?_; rintro e wK ⟨a1, k1, rfl, hr3, hbK⟩; simp only [entCells]))
                go_meet
                case rel => exact ⟨_, rfl, invAt_new _ _ _ _ _ hr4, (hbK.trans (hbJ.mono hbK.size)).trans ((Below.refl _ _).alloc (Nat.le_trans hbK.size hbJ.size) _)⟩
              | some ad =>
                by_cases hck : c = k
                · obtain rfl : k = n := by omega
                  subst hck
                  have hd : L.drop c = [] := List.drop_eq_nil_of_le (by omega)
                  have ct := toEntry_any c1 c2 c3 c4 (some ad) 0 0 (L.drop c) wc (by rw [hd]; rfl) (.inl hd) (fun e => (by cases e)) (by omega)
                  have key0 : ∀ a1 k1 wK, RowL wK a1 (L.drop c) → _ := fun a1 k1 wK h => inv_any c1 c2 c3 c4 a1 0 k1 (L.drop c) wK (by rw [hd]; rfl) h (by omega)
                  clear hd key
                  go_wp2_with (first
                    | (go_at_call 8; refine (key0 a1 k1 wK hr3).mono ?_; rintro e wJ ⟨a2, k2, rfl, hr4, hbJ⟩; simp only [entCells])
                    | (go_at_call 7; refine ct.mono ?_; rintro e wK ⟨a1, k1, rfl, hr3, hbK⟩; simp only [entCells]))
                  go_meet
                  case rel => exact ⟨_, rfl, invAt_new _ _ _ _ _ hr4, (hbK.trans (hbJ.mono hbK.size)).trans ((Below.refl _ _).alloc (Nat.le_trans hbK.size hbJ.size) _)⟩
                · have hrD : RowL wc (some (ad.add (k * 3))) (L.drop k) := by
                    rcases hr2 with h | ⟨b, o, e, hlt, hc⟩
                    · exact .inl (by rw [h]; simp)
                    · cases e
                      rw [Go.WideShapes.add_plain]
                      exact rowL_drop k (.inr ⟨b, o, rfl, hlt, hc⟩)
                  have ct := toEntry_any c1 c2 c3 c4 (some (ad.add (k * 3))) (n - k) (c - k) (L.drop k) wc hlk hrD (fun e => (by cases e)) (by omega)
                  go_wp2_with (first
                    | (go_at_call 8; refine (key a1 k1 wK hr3).mono ?_; rintro e wJ ⟨a2, k2, rfl, hr4, hbJ⟩; simp only [entCells])
                    | (go_at_call 7; refine ct.mono ?_; rintro e wK ⟨a1, k1, rfl, hr3, hbK⟩; simp only [entCells]))
                  go_meet
                  case rel => exact ⟨_, rfl, invAt_new _ _ _ _ _ hr4, (hbK.trans (hbJ.mono hbK.size)).trans ((Below.refl _ _).alloc (Nat.le_trans hbK.size hbJ.size) _)⟩
            case rest =>
              obtain ⟨x5, rfl, h15, hb2⟩ := hcut
              have hr3 := hr2.later hb2
              have hp3 := hp2.later hb2
              replace h13 := h13.later hb2
              replace h14 := h14.later hb2
              replace hbw := hbw.trans (hb2.mono hbw.size)
              clear hr2 hp2 hb2
              have hj := inv_join L k
              have hpM := inv_paths hp3
              have hsM := inv_small hsm
              have hkM : ∀ i, i < (invL L 0).length → kd ((invL L 0).getD i dSt).1 < 3 := fun i hi => by
                obtain ⟨j, _, _, h⟩ := inv_from hi
                exact h
              have cn0 : cnt 0 (invL L 0) = cnt 0 L := cnt_inv 0 (by omega) L
              have cn1 : cnt 2 (invL L 0) = cnt 1 L := cnt_inv 1 (by omega) L
              have cn2 : cnt 1 (invL L 0) = cnt 2 L := cnt_inv 2 (by omega) L
              generalize invL L 0 = M at *
              generalize invL (L.take k) 0 = Q at *
              generalize invL (L.drop k) 0 = R at *
              have hlen : M.length = R.length + Q.length := by rw [hj]; simp
              have gR : ∀ i, i < R.length → M.getD i dSt = R.getD i dSt := fun i hi => by rw [hj]; simp [List.getD, List.getElem?_append_left hi]
              have gQ : ∀ i, M.getD (R.length + i) dSt = Q.getD i dSt := fun i => by rw [hj]; simp [List.getD, List.getElem?_append_right]
              clear hj
              obtain ⟨a13, k13, ⟨l13, e13⟩, r13⟩ := h13
              obtain ⟨a14, k14, ⟨l14, e14⟩, r14⟩ := h14
              obtain ⟨a15, k15, ⟨l15, e15⟩, r15⟩ := h15
              have hbM : R.length + Q.length ≤ 1048576 := hlen ▸ hsM.1
              simp only [hlen] at e13
              have hbe : ∀ x, wc.cell? ⟨x, 4, none⟩ = wc.cell? ⟨x, 4, none⟩ := fun _ => rfl
              have u13 : wc.cell? ⟨x3, 4, none⟩ = some (.slice a13 (R.length + Q.length) k13) := e13 4
              have u14 : wc.cell? ⟨x4, 4, none⟩ = some (.slice a14 Q.length k14) := e14 4
              have u15 : wc.cell? ⟨x5, 4, none⟩ = some (.slice a15 R.length k15) := e15 4
              clear hbe e13 e14 e15
              generalize hRl : R.length = r at *
              generalize hQl : Q.length = q at *
              have HR : Hid (R.length = r) := hRl
              have HQ : Hid (Q.length = q) := hQl
              have HM : Hid (M.length = r + q) := hlen
              clear hRl hQl hlen
              go_upto_region 12 with fail
              obtain ⟨m, hmd⟩ : ∃ m, m = r + q := ⟨_, rfl⟩
              rw [← hmd] at u13
              have Hm : Hid (m = r + q) := hmd
              have hmb : m ≤ 1048576 := by omega
              have hrm : r ≤ m := by omega
              clear hmd
              go_wp2
              go_loopw [16] (fun v wr => ∃ i : Nat, v = .int .i64 i ∧ i ≤ r ∧ Below wc.heap.size wc wr) (fun v _ => r - (intOf v).toNat)
              case atStart => exact ⟨0, rfl, Nat.zero_le _, Below.refl _ _⟩
              case round =>
                obtain ⟨i, rfl, hi, hB⟩ := hrel
                have v13 := cell_kept hB u13
                have v15 := cell_kept hB u15
                by_cases hlt : i < r
                · rcases r13 with r13 | ⟨b13, o13, e, hl13, f13⟩
                  · have := HM.out; rw [r13] at this; simp at this; omega
                  subst e
                  rcases r15 with r15 | ⟨b15, o15, e, hl15, f15⟩
                  · have := HR.out; rw [r15] at this; simp at this; omega
                  subst e
                  have hiM : i < M.length := by rw [HM.out]; omega
                  have hmd := Hm.out
                  have q0 := cell_kept hB (f13 i 0 hiM (by omega))
                  have q1 := cell_kept hB (f13 i 1 hiM (by omega))
                  have q2 := cell_kept hB (f13 i 2 hiM (by omega))
                  have z0 := cell_kept hB (f15 i 0 (by rw [HR.out]; omega) (by omega))
                  have z1 := cell_kept hB (f15 i 1 (by rw [HR.out]; omega) (by omega))
                  have z2 := cell_kept hB (f15 i 2 (by rw [HR.out]; omega) (by omega))
                  have hpi := hpM.later (hB.trans (Below.refl _ _).drew) i hiM
                  have hsi := hsM.2 i hiM
                  rw [gR i hlt] at q0 q1 q2 hpi hsi
                  generalize R.getD i dSt = s at q0 q1 q2 z0 z1 z2 hpi hsi
                  have C12 := stepEq_any s wr.drew hpi.1 hpi.2 hsi.1 hsi.2
                  obtain ⟨op, ⟨fa, fn, fc⟩, ⟨ta, tn, tc⟩⟩ := s
                  simp only [cellOf, Nat.add_zero, stv] at q0 q1 q2 z0 z1 z2 C12
                  have hi1' : (0 : Int) ≤ (i : Int) := by omega
                  have hi2' : (i : Int) < (r : Int) := by omega
                  have hi3' : (i : Int) < (m : Int) := by omega
                  clear hmd
                  clear f13 f15 hpi hsi gR gQ hkM hpM hsM hsm hp3 hr3 r14 u13 u14 u15 cn0 cn1 cn2
                  go_wp2
                  go_region_held3 (fun w' => w'.cell? ⟨x3, 4, none⟩ = some (.slice (some ⟨b13, o13, none⟩) m k13) ∧ w'.cell? ⟨x5, 4, none⟩ = some (.slice (some ⟨b15, o15, none⟩) r k15) ∧ w'.cell? ⟨b13, o13 + i * 3, none⟩ = some (.string op) ∧ w'.cell? ⟨b13, o13 + i * 3 + 1, none⟩ = some (.slice fa fn fc) ∧ w'.cell? ⟨b13, o13 + i * 3 + 2, none⟩ = some (.slice ta tn tc) ∧ w'.cell? ⟨b15, o15 + i * 3, none⟩ = some (.string op) ∧ w'.cell? ⟨b15, o15 + i * 3 + 1, none⟩ = some (.slice fa fn fc) ∧ w'.cell? ⟨b15, o15 + i * 3 + 2, none⟩ = some (.slice ta tn tc))
                    (simp [*])
                    (first
                      | (go_at_call 12; refine C12.mono ?_; rintro e wK ⟨rfl, hbK0⟩; have hbK := below_of_drew hbK0; have S1 := And.intro (cell_kept hbK v13) (And.intro (cell_kept hbK v15) (And.intro (cell_kept hbK q0) (And.intro (cell_kept hbK q1) (And.intro (cell_kept hbK q2) (And.intro (cell_kept hbK z0) (And.intro (cell_kept hbK z1) (cell_kept hbK z2)))))))))
                  go_wp2
                  go_roundw
                  case rel => exact ⟨i + 1, by go_num, by omega, hB.trans (hbK.mono hB.size)⟩
                  case measure => simp [intOf]; omega
                · obtain rfl : i = r := by omega
                  go_wp2
                  clear v13 v15
                  go_loopw [17] (fun v w2 => ∃ j : Nat, v = .int .i64 j ∧ j ≤ q ∧ Below wc.heap.size wc w2) (fun v _ => q - (intOf v).toNat)
                  case atStart => exact ⟨0, rfl, Nat.zero_le _, hB⟩
                  case round =>
                    clear hB
                    obtain ⟨j, rfl, hj, hB⟩ := hrel
                    have v13 := cell_kept hB u13
                    have v14 := cell_kept hB u14
                    have v15 := cell_kept hB u15
                    by_cases hlt2 : j < q
                    · rcases r13 with r13 | ⟨b13, o13, e, hl13, f13⟩
                      · have := HM.out; rw [r13] at this; simp at this; omega
                      subst e
                      rcases r14 with r14 | ⟨b14, o14, e, hl14, f14⟩
                      · have := HQ.out; rw [r14] at this; simp at this; omega
                      subst e
                      obtain ⟨t, ht⟩ : ∃ t, t = i + j := ⟨_, rfl⟩
                      have hiM : t < M.length := by rw [HM.out]; omega
                      have q0 := cell_kept hB (f13 t 0 hiM (by omega))
                      have q1 := cell_kept hB (f13 t 1 hiM (by omega))
                      have q2 := cell_kept hB (f13 t 2 hiM (by omega))
                      have z0 := cell_kept hB (f14 j 0 (by rw [HQ.out]; omega) (by omega))
                      have z1 := cell_kept hB (f14 j 1 (by rw [HQ.out]; omega) (by omega))
                      have z2 := cell_kept hB (f14 j 2 (by rw [HQ.out]; omega) (by omega))
                      have hpi := hpM.later (hB.trans (Below.refl _ _).drew) t hiM
                      have hsi := hsM.2 t hiM
                      have ge : M.getD t dSt = Q.getD j dSt := by rw [ht]; exact gQ j
                      rw [ge] at q0 q1 q2 hpi hsi
                      clear ge
                      generalize Q.getD j dSt = s at q0 q1 q2 z0 z1 z2 hpi hsi
                      have C12 := stepEq_any s wr.drew hpi.1 hpi.2 hsi.1 hsi.2
                      obtain ⟨op, ⟨fa, fn, fc⟩, ⟨ta, tn, tc⟩⟩ := s
                      simp only [cellOf, Nat.add_zero, stv] at q0 q1 q2 z0 z1 z2 C12
                      have hi1' : (0 : Int) ≤ (j : Int) := by omega
                      have hi2' : (j : Int) < (q : Int) := by omega
                      have hi3' : (0 : Int) ≤ (t : Int) := by omega
                      have hi4' : (t : Int) < (m : Int) := by have := Hm.out; omega
                      have hw2 : IntKind.i64.wrap (t : Int) = (t : Int) := wrap_in _ (by omega) (by omega)
                      have hw3 : (i : Int) + (j : Int) = (t : Int) := by omega
                      have Ht : Hid (t = i + j) := ht
                      clear f13 f14 hpi hsi gR gQ hkM hpM hsM hsm hp3 hr3 r15 u13 u14 u15 cn0 cn1 cn2 ht
                      go_wp2
                      go_region_held3 (fun w' => w'.cell? ⟨x3, 4, none⟩ = some (.slice (some ⟨b13, o13, none⟩) m k13) ∧ w'.cell? ⟨x5, 4, none⟩ = some (.slice a15 i k15) ∧ w'.cell? ⟨x4, 4, none⟩ = some (.slice (some ⟨b14, o14, none⟩) q k14) ∧ w'.cell? ⟨b13, o13 + t * 3, none⟩ = some (.string op) ∧ w'.cell? ⟨b13, o13 + t * 3 + 1, none⟩ = some (.slice fa fn fc) ∧ w'.cell? ⟨b13, o13 + t * 3 + 2, none⟩ = some (.slice ta tn tc) ∧ w'.cell? ⟨b14, o14 + j * 3, none⟩ = some (.string op) ∧ w'.cell? ⟨b14, o14 + j * 3 + 1, none⟩ = some (.slice fa fn fc) ∧ w'.cell? ⟨b14, o14 + j * 3 + 2, none⟩ = some (.slice ta tn tc))
                        (simp [*])
                        (first
                          | (go_at_call 12; refine C12.mono ?_; rintro e wK ⟨rfl, hbK0⟩; have hbK := below_of_drew hbK0; have S1 := And.intro (cell_kept hbK v13) (And.intro (cell_kept hbK v15) (And.intro (cell_kept hbK v14) (And.intro (cell_kept hbK q0) (And.intro (cell_kept hbK q1) (And.intro (cell_kept hbK q2) (And.intro (cell_kept hbK z0) (And.intro (cell_kept hbK z1) (cell_kept hbK z2))))))))))
                      go_wp2
                      go_roundw
                      case rel => exact ⟨j + 1, by go_num, by omega, hB.trans (hbK.mono hB.size)⟩
                      case measure => simp [intOf]; omega
                    · obtain rfl : j = q := by omega
                      clear gR gQ hpM hsM hp3
                      go_wp2
                      clear v13 v14 v15
                      go_loopw [18, 19, 20, 21] (fun v0 v1 v2 v w2 => ∃ p : Nat, v0 = .int .i64 (cnt 0 (L.take p)) ∧ v1 = .int .i64 (cnt 1 (L.take p)) ∧ v2 = .int .i64 (cnt 2 (L.take p)) ∧ v = .int .i64 p ∧ p ≤ n ∧ w2 = wr) (fun _ _ _ v _ => n - (intOf v).toNat)
                      case atStart => exact ⟨0, rfl, rfl, rfl, rfl, Nat.zero_le _, rfl⟩
                      case round =>
                        obtain ⟨p, rfl, rfl, rfl, rfl, hpn, rfl⟩ := hrel
                        by_cases hltp : p < n
                        · rcases hr3 with hr3 | ⟨b, o, e, hbl, hc⟩
                          · subst hr3; simp at hl; omega
                          subst e
                          have q0 := cell_kept hB (hc p 0 (by omega) (by omega))
                          have hpL : p < L.length := by omega
                          have hi1' : (0 : Int) ≤ (p : Int) := by omega
                          have hi2' : (p : Int) < (n : Int) := by omega
                          have b0 := cnt_le 0 L p
                          have b1 := cnt_le 1 L p
                          have b2 := cnt_le 2 L p
                          have T0 : kd (L.getD p dSt).1 = 0 → _ := cnt_hit (c := 0) hpL
                          have T1 : kd (L.getD p dSt).1 = 1 → _ := cnt_hit (c := 1) hpL
                          have T2 : kd (L.getD p dSt).1 = 2 → _ := cnt_hit (c := 2) hpL
                          have F0 : kd (L.getD p dSt).1 ≠ 0 → _ := cnt_miss (c := 0) hpL
                          have F1 : kd (L.getD p dSt).1 ≠ 1 → _ := cnt_miss (c := 1) hpL
                          have F2 : kd (L.getD p dSt).1 ≠ 2 → _ := cnt_miss (c := 2) hpL
                          generalize L.getD p dSt = s at q0 T0 T1 T2 F0 F1 F2
                          obtain ⟨op, f1, t1⟩ := s
                          simp only [cellOf, Nat.add_zero] at q0 T0 T1 T2 F0 F1 F2
                          generalize cnt 0 (L.take p) = d0 at *
                          generalize cnt 1 (L.take p) = d1 at *
                          generalize cnt 2 (L.take p) = d2 at *
                          clear hc r13 r14 r15 u13 u14 u15 cn0 cn1 cn2 hkM
                          cases h1 : (op.toList == [109, 111, 118, 101]) with
                          | true =>
                            have hk0 : kd op = 0 := by simp [kd, isM, h1]
                            have N0 : Hid (cnt 0 (L.take (p + 1)) = d0 + 1) := T0 hk0
                            have N1 : Hid (cnt 1 (L.take (p + 1)) = d1) := F1 (by omega)
                            have N2 : Hid (cnt 2 (L.take (p + 1)) = d2) := F2 (by omega)
                            clear T0 T1 T2 F0 F1 F2 hk0
                            go_wp2
                            go_roundw
                            case rel => exact ⟨p + 1, by rw [N0.out]; go_num, by rw [N1.out], by rw [N2.out], by go_num, by omega, trivial⟩
                            case measure => simp [intOf]; omega
                          | false =>
                            cases h2 : (op.toList == [119, 114, 97, 112]) with
                            | true =>
                              have hk0 : kd op = 1 := by simp [kd, isM, isW, h1, h2]
                              have N0 : Hid (cnt 0 (L.take (p + 1)) = d0) := F0 (by omega)
                              have N1 : Hid (cnt 1 (L.take (p + 1)) = d1 + 1) := T1 hk0
                              have N2 : Hid (cnt 2 (L.take (p + 1)) = d2) := F2 (by omega)
                              clear T0 T1 T2 F0 F1 F2 hk0
                              go_wp2
                              go_roundw
                              case rel => exact ⟨p + 1, by rw [N0.out], by rw [N1.out]; go_num, by rw [N2.out], by go_num, by omega, trivial⟩
                              case measure => simp [intOf]; omega
                            | false =>
                              cases h3 : (op.toList == [117, 110, 119, 114, 97, 112]) with
                              | true =>
                                have hk0 : kd op = 2 := by simp [kd, isM, isW, isU, h1, h2, h3]
                                have N0 : Hid (cnt 0 (L.take (p + 1)) = d0) := F0 (by omega)
                                have N1 : Hid (cnt 1 (L.take (p + 1)) = d1) := F1 (by omega)
                                have N2 : Hid (cnt 2 (L.take (p + 1)) = d2 + 1) := T2 hk0
                                clear T0 T1 T2 F0 F1 F2 hk0
                                go_wp2
                                go_roundw
                                case rel => exact ⟨p + 1, by rw [N0.out], by rw [N1.out], by rw [N2.out]; go_num, by go_num, by omega, trivial⟩
                                case measure => simp [intOf]; omega
                              | false =>
                                have hk0 : kd op = 3 := by simp [kd, isM, isW, isU, h1, h2, h3]
                                have N0 : Hid (cnt 0 (L.take (p + 1)) = d0) := F0 (by omega)
                                have N1 : Hid (cnt 1 (L.take (p + 1)) = d1) := F1 (by omega)
                                have N2 : Hid (cnt 2 (L.take (p + 1)) = d2) := F2 (by omega)
                                clear T0 T1 T2 F0 F1 F2 hk0
                                go_wp2
                                go_roundw
                                case rel => exact ⟨p + 1, by rw [N0.out], by rw [N1.out], by rw [N2.out], by go_num, by omega, trivial⟩
                                case measure => simp [intOf]; omega
                        · obtain rfl : p = n := by omega
                          have e1 : L.take p = L := List.take_of_length_le (by omega)
                          rw [e1, ← cn0, ← cn1, ← cn2]
                          clear e1 cn0 cn1 cn2 hr3
                          generalize hD0 : cnt 0 M = D0
                          generalize hD1 : cnt 2 M = D1
                          generalize hD2 : cnt 1 M = D2
                          have E0 : Hid (cnt 0 M = D0) := hD0
                          have E1 : Hid (cnt 2 M = D1) := hD1
                          have E2 : Hid (cnt 1 M = D2) := hD2
                          clear hD0 hD1 hD2
                          go_wp2
                          go_loopw [22, 23, 24, 25] (fun v0 v1 v2 v w2 => ∃ p : Nat, v0 = .int .i64 (cnt 0 (M.take p)) ∧ v1 = .int .i64 (cnt 1 (M.take p)) ∧ v2 = .int .i64 (cnt 2 (M.take p)) ∧ v = .int .i64 p ∧ p ≤ m ∧ w2 = wr) (fun _ _ _ v _ => m - (intOf v).toNat)
                          case atStart => exact ⟨0, rfl, rfl, rfl, rfl, Nat.zero_le _, rfl⟩
                          case round =>
                            obtain ⟨p2, rfl, rfl, rfl, rfl, hpm, rfl⟩ := hrel
                            have v13 := cell_kept hB u13
                            have hML : M.length = m := by rw [HM.out, Hm.out]
                            by_cases hltm : p2 < m
                            · rcases r13 with r13 | ⟨b, o, e, hbl, hc⟩
                              · subst r13; simp at hML; omega
                              subst e
                              have q0 := cell_kept hB (hc p2 0 (by omega) (by omega))
                              have hpL : p2 < M.length := by omega
                              have hi1' : (0 : Int) ≤ (p2 : Int) := by omega
                              have hi2' : (p2 : Int) < (m : Int) := by omega
                              have b0 := cnt_le 0 M p2
                              have b1 := cnt_le 1 M p2
                              have b2 := cnt_le 2 M p2
                              have T0 : kd (M.getD p2 dSt).1 = 0 → _ := cnt_hit (c := 0) hpL
                              have T1 : kd (M.getD p2 dSt).1 = 1 → _ := cnt_hit (c := 1) hpL
                              have T2 : kd (M.getD p2 dSt).1 = 2 → _ := cnt_hit (c := 2) hpL
                              have F0 : kd (M.getD p2 dSt).1 ≠ 0 → _ := cnt_miss (c := 0) hpL
                              have F1 : kd (M.getD p2 dSt).1 ≠ 1 → _ := cnt_miss (c := 1) hpL
                              have F2 : kd (M.getD p2 dSt).1 ≠ 2 → _ := cnt_miss (c := 2) hpL
                              have hk3 := hkM p2 hpL
                              generalize M.getD p2 dSt = s at q0 T0 T1 T2 F0 F1 F2 hk3
                              obtain ⟨op, f1, t1⟩ := s
                              simp only [cellOf, Nat.add_zero] at q0 T0 T1 T2 F0 F1 F2 hk3
                              generalize cnt 0 (M.take p2) = d0 at *
                              generalize cnt 1 (M.take p2) = d1 at *
                              generalize cnt 2 (M.take p2) = d2 at *
                              clear hc hkM hML r14 r15 u14 u15 hpL
                              cases h1 : (op.toList == [109, 111, 118, 101]) with
                              | true =>
                                have hk0 : kd op = 0 := by simp [kd, isM, h1]
                                have N0 : Hid (cnt 0 (M.take (p2 + 1)) = d0 + 1) := T0 hk0
                                have N1 : Hid (cnt 1 (M.take (p2 + 1)) = d1) := F1 (by omega)
                                have N2 : Hid (cnt 2 (M.take (p2 + 1)) = d2) := F2 (by omega)
                                clear T0 T1 T2 F0 F1 F2 hk0 hk3
                                go_wp2
                                go_roundw
                                case rel => exact ⟨p2 + 1, by rw [N0.out]; go_num, by rw [N1.out], by rw [N2.out], by go_num, by omega, trivial⟩
                                case measure => simp [intOf]; omega
                              | false =>
                                cases h2 : (op.toList == [119, 114, 97, 112]) with
                                | true =>
                                  have hk0 : kd op = 1 := by simp [kd, isM, isW, h1, h2]
                                  have N0 : Hid (cnt 0 (M.take (p2 + 1)) = d0) := F0 (by omega)
                                  have N1 : Hid (cnt 1 (M.take (p2 + 1)) = d1 + 1) := T1 hk0
                                  have N2 : Hid (cnt 2 (M.take (p2 + 1)) = d2) := F2 (by omega)
                                  clear T0 T1 T2 F0 F1 F2 hk0 hk3
                                  go_wp2
                                  go_roundw
                                  case rel => exact ⟨p2 + 1, by rw [N0.out], by rw [N1.out]; go_num, by rw [N2.out], by go_num, by omega, trivial⟩
                                  case measure => simp [intOf]; omega
                                | false =>
                                  cases h3 : (op.toList == [117, 110, 119, 114, 97, 112]) with
                                  | true =>
                                    have hk0 : kd op = 2 := by simp [kd, isM, isW, isU, h1, h2, h3]
                                    have N0 : Hid (cnt 0 (M.take (p2 + 1)) = d0) := F0 (by omega)
                                    have N1 : Hid (cnt 1 (M.take (p2 + 1)) = d1) := F1 (by omega)
                                    have N2 : Hid (cnt 2 (M.take (p2 + 1)) = d2 + 1) := T2 hk0
                                    clear T0 T1 T2 F0 F1 F2 hk0 hk3
                                    go_wp2
                                    go_roundw
                                    case rel => exact ⟨p2 + 1, by rw [N0.out], by rw [N1.out], by rw [N2.out]; go_num, by go_num, by omega, trivial⟩
                                    case measure => simp [intOf]; omega
                                  | false =>
                                    have hk0 : kd op = 3 := by simp [kd, isM, isW, isU, h1, h2, h3]
                                    omega
                            · obtain rfl : p2 = m := by omega
                              have e1 : M.take p2 = M := List.take_of_length_le (by omega)
                              rw [e1, E0.out, E1.out, E2.out]
                              clear e1 hML
                              go_wp2
                              go_ret
                              exact ⟨rfl, hbw.trans (hB.mono hbw.size)⟩
end Go.Proofs.Qxb6630899a
