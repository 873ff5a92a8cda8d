/-
  Keys that are edges and cells. Seat b6630866a.
-/
import Derived.Test.Qxb6630866aProg
import Derived.WalkKit
import Derived.WalkSpells
import Derived.DeepKeys4
import Derived.Maps.OwnSet
import Derived.Maps.OwnOps
import Derived.Maps.Ext
namespace Go.Proofs.Qxb6630866a
open Go.RowKit Go.Maps
set_option linter.unusedVariables false

theorem Try.laidOut : laidOutB Try.prog = true := by kernel_rfl
theorem Try.row37 : (37 : TypeId) < Try.prog.types.size := of_decide_eq_true (by kernel_rfl)
theorem Try.row35 : (35 : TypeId) < Try.prog.types.size := of_decide_eq_true (by kernel_rfl)
theorem Try.wide37 : (match Try.prog.underlying 37 with | some (.array _ _) | some (.struct _) => true | _ => false) = true := by rw [Try.underlying37]
theorem Try.wide35 : (match Try.prog.underlying 35 with | some (.array _ _) | some (.struct _) => true | _ => false) = true := by rw [Try.underlying35]
theorem Try.cells37 : Try.prog.cellsOf 37 = 4 := by kernel_rfl
theorem Try.cells35 : Try.prog.cellsOf 35 = 2 := by kernel_rfl
theorem Try.cells3 : Try.prog.cellsOf 3 = 1 := by kernel_rfl
theorem Try.klaw37 : WideMaps.KeyLaw Try.prog 37 := deep_law_laid Try.laidOut (m := 3) (by omega) Try.row37 (by kernel_rfl) Try.wide37
theorem Try.klaw35 : WideMaps.KeyLaw Try.prog 35 := deep_law_laid Try.laidOut (m := 2) (by omega) Try.row35 (by kernel_rfl) Try.wide35
theorem law37 : Keyed Try.prog 37 := Keyed.of_law Try.klaw37
theorem law35 : Keyed Try.prog 35 := Keyed.of_law Try.klaw35
theorem Try.kt37 : Try.prog.keyType 37 = true := by kernel_rfl
theorem Try.kt35 : Try.prog.keyType 35 = true := by kernel_rfl
theorem Try.ktd37 : Try.prog.keyTypeAt 3 37 = true := by kernel_rfl
theorem Try.ktd35 : Try.prog.keyTypeAt 2 35 = true := by kernel_rfl

/-- An edge, a cell: plain numbers. -/
abbrev Ed := Int × Int × Int × Int
abbrev Ce := Int × Int
def ok (n : Int) : Prop := (Lit.int .i64 n).wf = true
def Ed.ok (e : Ed) : Prop := Qxb6630866a.ok e.1 ∧ Qxb6630866a.ok e.2.1 ∧ Qxb6630866a.ok e.2.2.1 ∧ Qxb6630866a.ok e.2.2.2
def Ce.ok (c : Ce) : Prop := Qxb6630866a.ok c.1 ∧ Qxb6630866a.ok c.2
def ev (e : Ed) : Value := .agg #[.int .i64 e.1, .int .i64 e.2.1, .int .i64 e.2.2.1, .int .i64 e.2.2.2]
def cv (c : Ce) : Value := .agg #[.int .i64 c.1, .int .i64 c.2]
def kl (e : Ed) : Lit := .string (keyBytes [.int .i64 e.1, .int .i64 e.2.1, .int .i64 e.2.2.1, .int .i64 e.2.2.2])
def kc (c : Ce) : Lit := .string (keyBytes [.int .i64 c.1, .int .i64 c.2])

theorem keyLits3 (d : Nat) (a : Int) (h : ok a) : Try.prog.keyLits (d + 1) 3 [.int .i64 a] = some [.int .i64 a] := by
  unfold ok at h
  simp [Program.keyLits, Try.underlying3, h]
theorem keyLits35 (d : Nat) (a b : Int) (ha : ok a) (hb : ok b) : Try.prog.keyLits (d + 2) 35 [.int .i64 a, .int .i64 b] = some [.int .i64 a, .int .i64 b] := by
  unfold ok at ha hb
  simp [Program.keyLits, Try.underlying35, Try.cells35, Try.cells3, Try.underlying3, ha, hb]
theorem keyLits37 (d : Nat) (a b c e : Int) (ha : ok a) (hb : ok b) (hc : ok c) (he : ok e) :
    Try.prog.keyLits (d + 3) 37 [.int .i64 a, .int .i64 b, .int .i64 c, .int .i64 e] = some [.int .i64 a, .int .i64 b, .int .i64 c, .int .i64 e] := by
  have h1 := keyLits35 d a b ha hb
  have h2 := keyLits35 d c e hc he
  rw [show d + 3 = (d + 2) + 1 from rfl]
  unfold Program.keyLits
  simp only [Try.underlying37]
  simp [Try.cells37, Try.cells35, h1, h2]
theorem fuelIs : Try.prog.types.size + 1 = (Try.prog.types.size - 2) + 3 := by kernel_rfl
theorem fuelIs2 : Try.prog.types.size + 1 = (Try.prog.types.size - 1) + 2 := by kernel_rfl
theorem keyOf_ev (e : Ed) (h : Ed.ok e) : keyOf Try.prog 37 (ev e) = some (kl e) := by
  have h1 := keyLits37 (Try.prog.types.size - 2) e.1 e.2.1 e.2.2.1 e.2.2.2 h.1 h.2.1 h.2.2.1 h.2.2.2
  rw [← fuelIs] at h1
  have hf : (ev e).formed Try.prog 37 = true := by simp [ev, Value.formed, Try.underlying37, Try.cells37]
  simp only [keyOf, Try.underlying37, Try.kt37, hf, Bool.and_self, if_true]
  show Option.map _ (Try.prog.keyLits (Try.prog.types.size + 1) 37 [.int .i64 e.1, .int .i64 e.2.1, .int .i64 e.2.2.1, .int .i64 e.2.2.2]) = _
  rw [h1]
  rfl
theorem keyOf_cv (e : Ce) (h : Ce.ok e) : keyOf Try.prog 35 (cv e) = some (kc e) := by
  have h1 := keyLits35 (Try.prog.types.size - 1) e.1 e.2 h.1 h.2
  rw [← fuelIs2] at h1
  have hf : (cv e).formed Try.prog 35 = true := by simp [cv, Value.formed, Try.underlying35, Try.cells35]
  simp only [keyOf, Try.underlying35, Try.kt35, hf, Bool.and_self, if_true]
  show Option.map _ (Try.prog.keyLits (Try.prog.types.size + 1) 35 [.int .i64 e.1, .int .i64 e.2]) = _
  rw [h1]
  rfl
theorem kl_inj {a b : Ed} (ha : Ed.ok a) (hb : Ed.ok b) (h : kl a = kl b) : a = b := by
  have h1 := keyOf_ev a ha
  have h2 := keyOf_ev b hb
  rw [h] at h1
  have := law37.inj h1 h2
  simp [ev] at this
  obtain ⟨a1, a2, a3, a4⟩ := a
  obtain ⟨b1, b2, b3, b4⟩ := b
  simp_all
theorem kc_inj {a b : Ce} (ha : Ce.ok a) (hb : Ce.ok b) (h : kc a = kc b) : a = b := by
  have h1 := keyOf_cv a ha
  have h2 := keyOf_cv b hb
  rw [h] at h1
  have := law35.inj h1 h2
  simp [cv] at this
  obtain ⟨a1, a2⟩ := a
  obtain ⟨b1, b2⟩ := b
  simp_all
theorem kl_isKey (e : Ed) : WideAt.IsKeyLit (kl e) := trivial
theorem kc_isKey (e : Ce) : WideAt.IsKeyLit (kc e) := trivial
end Go.Proofs.Qxb6630866a
