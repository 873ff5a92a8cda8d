import Derived.Test.Qxb6630866aRows
import Derived.Test.Qxb6630866aMatchEarly
import Derived.Test.Qxb6630866aOpen
import Derived.WalkKit
import Derived.ProofKit
import Derived.OpenShut
import Derived.ShutString
import Derived.ChangeOld
import Derived.Below
namespace Go.Proofs.Qxb6630866a.fnNewGameMatchesModel
open Go.ChangeShapes Go.WideShapes Go.ChangeAt Go.RowKit
set_option linter.unusedVariables false

theorem own : ownKnob Try.prog.godebug = none := by kernel_rfl

theorem Try.cells41 : Try.prog.cellsOf 41 = 4 := by kernel_rfl
theorem Try.cells48 : Try.prog.cellsOf 48 = 5 := by kernel_rfl
theorem Try.cells54 : Try.prog.cellsOf 54 = 2 := by kernel_rfl

theorem walk (x0 x1 s0x s0y s1x s1y : Int) (a2 a3 a4 : Option Addr) (n2 k2 n3 k3 n4 k4 : Nat) (w : World) (v0 : ok s0x) (v1 : ok s0y) (v2 : ok s1x) (v3 : ok s1y)
    (m2 : n2 ≤ maxLen) (m3 : n3 ≤ maxLen) (m4 : n4 ≤ maxLen) (h2 : ∃ f, RowF w a2 n2 4 f ∧ Fits n2 4 f) (h3 : ∃ f, RowF w a3 n3 5 f ∧ Fits n3 5 f) (h4 : ∃ f, RowF w a4 n4 2 f ∧ Fits n4 2 f) :
    Calls Try.prog 3 #[.int .i64 x0, .int .i64 x1, .slice a2 n2 k2, .slice a3 n3 k3, .slice a4 n4 k4, .int .i64 s0x, .int .i64 s0y, .int .i64 s1x, .int .i64 s1y] w fun e w' =>
      e = .returned (.bool true) ∧ Below w.heap.size w w' := by
  obtain ⟨f, r2, f2⟩ := h2
  obtain ⟨g, r3, f3⟩ := h3
  obtain ⟨h, r4, f4⟩ := h4
  by_cases hall : n2 ≤ 4096 ∧ n3 ≤ 4096 ∧ n4 ≤ 4096 ∧ n2 * 32 + n3 * 40 + n4 * 16 ≤ 1048576
  · exact match_main x0 x1 s0x s0y s1x s1y a2 a3 a4 n2 k2 n3 k3 n4 k4 f g h w r2 r3 r4 f2 f3 f4 hall.1 hall.2.1 hall.2.2.1 hall.2.2.2 v0 v1 v2 v3
  · exact match_early x0 x1 s0x s0y s1x s1y a2 a3 a4 n2 k2 n3 k3 n4 k4 w m2 m3 m4 (by omega)

set_option maxRecDepth 100000 in
theorem lifted (os : Os) (started : os.Started) (H : Type) (enc : TypeId × Value → H) :
    ReturnsInHanded {} Try.checked os 3 .any (Rows.fnNewGameMatchesModelSpec.pre6 enc Try.prog Try.f3 Rows.fnNewGameMatchesModelRow.domain false) (Rows.fnNewGameMatchesModelSpec.post enc Try.prog Try.f3 false true false false) := by
  refine returnsInHanded_of_change (C := Try.checked) own started (by kernel_rfl) Try.func3
    (ChangeSpec.witness6 (enc := enc) (C := Try.checked) false ⟨#[], #[.int .i64 0, .int .i64 0, .slice none 0 0, .slice none 0 0, .slice none 0 0, .int .i64 0, .int .i64 0, .int .i64 0, .int .i64 0], []⟩ 8 (by kernel_rfl) (by kernel_rfl) (by kernel_rfl) (by kernel_rfl)) ?_
  intro W base args ds gs before hval0 hW hcnd _
  have hval : ∀ (j : Nat) t v, Try.f3.params[j]? = some t → args[j]? = some v → Value.okWide Try.prog W .any base t v := hval0
  have hW' := hW
  obtain ⟨p, q, hA0, hV, rfl, hfz, hnd⟩ := hW
  have hA : DataW.TrodAll enc Try.prog W 0 (fun _ => true) true Try.f3.params.toList args.toList ds p := hA0
  rw [Try.params3] at hA hval
  obtain ⟨v0, vs0, d0, ds0, p0, q0, hargs, rfl, rfl, h0, r0⟩ := trodAll_cons hA
  obtain ⟨v1, vs1, d1, ds1, p1, q1, rfl, rfl, rfl, h1, r1⟩ := trodAll_cons r0
  obtain ⟨v2, vs2, d2, ds2, p2, q2, rfl, rfl, rfl, h2, r2⟩ := trodAll_cons r1
  obtain ⟨v3, vs3, d3, ds3, p3, q3, rfl, rfl, rfl, h3, r3⟩ := trodAll_cons r2
  obtain ⟨v4, vs4, d4, ds4, p4, q4, rfl, rfl, rfl, h4, r4⟩ := trodAll_cons r3
  obtain ⟨v5, vs5, d5, ds5, p5, q5, rfl, rfl, rfl, h5, r5⟩ := trodAll_cons r4
  obtain ⟨v6, vs6, d6, ds6, p6, q6, rfl, rfl, rfl, h6, r6⟩ := trodAll_cons r5
  obtain ⟨v7, vs7, d7, ds7, p7, q7, rfl, rfl, rfl, h7, r7⟩ := trodAll_cons r6
  obtain ⟨v8, vs8, d8, ds8, p8, q8, rfl, rfl, rfl, h8, r8⟩ := trodAll_cons r7
  obtain ⟨rfl, rfl, rfl⟩ := trodAll_nil r8
  obtain rfl : args = #[v0, v1, v2, v3, v4, v5, v6, v7, v8] := by cases args; simp_all
  obtain ⟨rfl, rfl⟩ := trodVars_none hV
  have k0 := h0
  have lt0 : ∀ x ∈ p0, x.block < W.heap.size := by obtain ⟨m, hm⟩ := k0; exact DataW.trod_lt m _ _ _ hm
  obtain ⟨x0, e0, f0, y0, wx0⟩ := open_int Try.underlying3 (hval 0 3 v0 rfl rfl) h0
  subst e0
  have k1 := h1
  have lt1 : ∀ x ∈ p1, x.block < W.heap.size := by obtain ⟨m, hm⟩ := k1; exact DataW.trod_lt m _ _ _ hm
  obtain ⟨x1, e1, f1, y1, wx1⟩ := open_int Try.underlying3 (hval 1 3 v1 rfl rfl) h1
  subst e1
  have k2 := h2
  have lt2 : ∀ x ∈ p2, x.block < W.heap.size := by obtain ⟨m, hm⟩ := k2; exact DataW.trod_lt m _ _ _ hm
  obtain ⟨a2, len2, cap2, e2⟩ := okWide_slice Try.underlying22 (hval 2 22 v2 rfl rfl)
  subst e2
  obtain ⟨hm2, hr2⟩ := row_of_slice (k := 4) Try.underlying22 Try.underlying41 rfl (by omega) Try.cells41 (by intro j hj; match j, hj with | 0, _ => exact ⟨_, rfl, rfl, rfl⟩ | 1, _ => exact ⟨_, rfl, rfl, rfl⟩ | 2, _ => exact ⟨_, rfl, rfl, rfl⟩ | 3, _ => exact ⟨_, rfl, rfl, rfl⟩) h2
  have k3 := h3
  have lt3 : ∀ x ∈ p3, x.block < W.heap.size := by obtain ⟨m, hm⟩ := k3; exact DataW.trod_lt m _ _ _ hm
  obtain ⟨a3, len3, cap3, e3⟩ := okWide_slice Try.underlying23 (hval 3 23 v3 rfl rfl)
  subst e3
  obtain ⟨hm3, hr3⟩ := row_of_slice (k := 5) Try.underlying23 Try.underlying48 rfl (by omega) Try.cells48 (by intro j hj; match j, hj with | 0, _ => exact ⟨_, rfl, rfl, rfl⟩ | 1, _ => exact ⟨_, rfl, rfl, rfl⟩ | 2, _ => exact ⟨_, rfl, rfl, rfl⟩ | 3, _ => exact ⟨_, rfl, rfl, rfl⟩ | 4, _ => exact ⟨_, rfl, rfl, rfl⟩) h3
  have k4 := h4
  have lt4 : ∀ x ∈ p4, x.block < W.heap.size := by obtain ⟨m, hm⟩ := k4; exact DataW.trod_lt m _ _ _ hm
  obtain ⟨a4, len4, cap4, e4⟩ := okWide_slice Try.underlying24 (hval 4 24 v4 rfl rfl)
  subst e4
  obtain ⟨hm4, hr4⟩ := row_of_slice (k := 2) Try.underlying24 Try.underlying54 rfl (by omega) Try.cells54 (by intro j hj; match j, hj with | 0, _ => exact ⟨_, rfl, rfl, rfl⟩ | 1, _ => exact ⟨_, rfl, rfl, rfl⟩) h4
  have k5 := h5
  have lt5 : ∀ x ∈ p5, x.block < W.heap.size := by obtain ⟨m, hm⟩ := k5; exact DataW.trod_lt m _ _ _ hm
  obtain ⟨x5, e5, f5, y5, wx5⟩ := open_int Try.underlying3 (hval 5 3 v5 rfl rfl) h5
  subst e5
  have k6 := h6
  have lt6 : ∀ x ∈ p6, x.block < W.heap.size := by obtain ⟨m, hm⟩ := k6; exact DataW.trod_lt m _ _ _ hm
  obtain ⟨x6, e6, f6, y6, wx6⟩ := open_int Try.underlying3 (hval 6 3 v6 rfl rfl) h6
  subst e6
  have k7 := h7
  have lt7 : ∀ x ∈ p7, x.block < W.heap.size := by obtain ⟨m, hm⟩ := k7; exact DataW.trod_lt m _ _ _ hm
  obtain ⟨x7, e7, f7, y7, wx7⟩ := open_int Try.underlying3 (hval 7 3 v7 rfl rfl) h7
  subst e7
  have k8 := h8
  have lt8 : ∀ x ∈ p8, x.block < W.heap.size := by obtain ⟨m, hm⟩ := k8; exact DataW.trod_lt m _ _ _ hm
  obtain ⟨x8, e8, f8, y8, wx8⟩ := open_int Try.underlying3 (hval 8 3 v8 rfl rfl) h8
  subst e8
  clear hA0 hval0
  refine (walk x0 x1 x5 x6 x7 x8 a2 a3 a4 len2 cap2 len3 cap3 len4 cap4 W wx5 wx6 wx7 wx8 hm2 hm3 hm4 hr2 hr3 hr4).mono fun e W' ⟨he, bel⟩ => ?_
  subst he
  exact ⟨_, rfl, _, _, _, [], _, [], hW', trodAll_mk1 (shut_bool Try.underlying4 _), (trodAll_cons_mk (Below.trod Try.laidOut (by kernel_rfl) (of_decide_eq_true (by kernel_rfl)) k0 bel lt0) (trodAll_cons_mk (Below.trod Try.laidOut (by kernel_rfl) (of_decide_eq_true (by kernel_rfl)) k1 bel lt1) (trodAll_cons_mk (Below.trod Try.laidOut (by kernel_rfl) (of_decide_eq_true (by kernel_rfl)) k2 bel lt2) (trodAll_cons_mk (Below.trod Try.laidOut (by kernel_rfl) (of_decide_eq_true (by kernel_rfl)) k3 bel lt3) (trodAll_cons_mk (Below.trod Try.laidOut (by kernel_rfl) (of_decide_eq_true (by kernel_rfl)) k4 bel lt4) (trodAll_cons_mk (Below.trod Try.laidOut (by kernel_rfl) (of_decide_eq_true (by kernel_rfl)) k5 bel lt5) (trodAll_cons_mk (Below.trod Try.laidOut (by kernel_rfl) (of_decide_eq_true (by kernel_rfl)) k6 bel lt6) (trodAll_cons_mk (Below.trod Try.laidOut (by kernel_rfl) (of_decide_eq_true (by kernel_rfl)) k7 bel lt7) (trodAll_cons_mk (Below.trod Try.laidOut (by kernel_rfl) (of_decide_eq_true (by kernel_rfl)) k8 bel lt8) trodAll_mk0))))))))), rfl, bel.frame _, fun h => by cases h⟩

theorem over : Rows.fnNewGameMatchesModelRow.holds Try.pinned (OpenSpec.ofChange Rows.fnNewGameMatchesModelSpec) :=
  OpenClaim.holds_of_wide 3 Try.f3 rfl rfl rfl rfl rfl rfl rfl ⟨rfl, rfl, rfl, rfl, rfl⟩ rfl rfl rfl rfl rfl (by kernel_rfl) Try.func3 (by kernel_rfl)
    (of_decide_eq_true (by kernel_rfl)) (by unfold Func.isWrapper; first | (rw [if_pos (by decide +kernel)]; kernel_rfl) | (rw [if_neg (by decide +kernel)]; exact ⟨rfl, rfl⟩))
    (fun os started H enc _ => lifted os started H enc)

theorem proved : Rows.FnNewGameMatchesModelSaid := over
end Go.Proofs.Qxb6630866a.fnNewGameMatchesModel
