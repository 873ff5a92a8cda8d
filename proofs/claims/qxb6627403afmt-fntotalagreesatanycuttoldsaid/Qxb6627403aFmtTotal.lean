/-
  The closed facts for fmt.errorf's stop; the walk of Total (8). Seat b6627403aF.
-/
import Derived.Test.Qxb6627403aFmtLeaf
import Derived.Stop.CallBack
import Derived.Stop.IfaceNil
import GoSem.ClaimData
namespace Go.Proofs.Qxb6627403aFmt
open Go.RowKit Go.Extern.Stop Go.Stop Go.Extern
set_option linter.unusedVariables false
attribute [local go_sem ↓] Go.wp_at_zero Go.wp_at_succ

@[go_sem] theorem Tryf.call15 (args : Array Value) (w : World) : (callFunc 15 args).run Tryf.prog w = ((FmtStop.errorf #[9, 49] #[29] args).run Tryf.prog w).andThen fun v w' => .ok (.value v) w' :=
  run_callFunc_extern Tryf.func15 (by kernel_rfl) (by kernel_rfl) (by kernel_rfl) (by kernel_rfl) args w
@[go_sem] theorem Tryf.guard (name : String) (w : World) : (FmtStop.guard name).run Tryf.prog w = .ok () w := by kernel_rfl
@[go_sem] theorem Tryf.fmt0 : FmtStop.printed? ⟨#[116, 104, 101, 32, 116, 111, 116, 97, 108, 32, 111, 102, 32, 111, 114, 100, 101, 114, 32, 37, 100, 32, 105, 115, 32, 110, 111, 116, 32, 97, 110, 32, 97, 109, 111, 117, 110, 116, 32, 111, 102, 32, 99, 101, 110, 116, 115]⟩ 1 = some [(0, 100, false)] := by kernel_rfl
@[go_sem] theorem Tryf.fmt0r (w : World) : (FmtDoors.printed ⟨#[116, 104, 101, 32, 116, 111, 116, 97, 108, 32, 111, 102, 32, 111, 114, 100, 101, 114, 32, 37, 100, 32, 105, 115, 32, 110, 111, 116, 32, 97, 110, 32, 97, 109, 111, 117, 110, 116, 32, 111, 102, 32, 99, 101, 110, 116, 115]⟩ 1).run Tryf.prog w = .ok [(0, 100, false)] w := by kernel_rfl
@[go_sem] theorem Tryf.fmt1 : FmtStop.printed? ⟨#[116, 104, 101, 32, 116, 111, 116, 97, 108, 32, 111, 102, 32, 111, 114, 100, 101, 114, 32, 37, 100, 32, 105, 115, 32, 110, 111, 116, 32, 97, 110, 32, 97, 109, 111, 117, 110, 116, 32, 111, 102, 32, 99, 101, 110, 116, 115]⟩ 0 = some [] := by kernel_rfl
@[go_sem] theorem Tryf.fmt1r (w : World) : (FmtDoors.printed ⟨#[116, 104, 101, 32, 116, 111, 116, 97, 108, 32, 111, 102, 32, 111, 114, 100, 101, 114, 32, 37, 100, 32, 105, 115, 32, 110, 111, 116, 32, 97, 110, 32, 97, 109, 111, 117, 110, 116, 32, 111, 102, 32, 99, 101, 110, 116, 115]⟩ 0).run Tryf.prog w = .ok [] w := by kernel_rfl
theorem Tryf.name2 : Tryf.prog.typeName? 3 2 = some "int64" := by kernel_rfl
def Tryf.shape2 : List UInt8 := [5, 5, 0, 0, 0, 0, 0, 0, 0, 105, 110, 116, 54, 52]
@[go_sem] theorem Tryf.op2_100w (name : String) (x : Int) (w : World) : (FmtStop.operand name true 100 false (.iface 2 (.int .i64 x))).run Tryf.prog w = .ok (Tryf.shape2, Go.Extern.Stop.digits 8 (x % 2 ^ 64).toNat) w := by kernel_rfl
@[go_sem] theorem Tryf.op2_100 (name : String) (x : Int) (w : World) : (FmtStop.operand name false 100 false (.iface 2 (.int .i64 x))).run Tryf.prog w = .ok (Tryf.shape2, Go.Extern.Stop.digits 8 (x % 2 ^ 64).toNat) w := by kernel_rfl
@[go_sem] theorem Tryf.strict2 (name : String) (x : Int) (w : World) : (FmtStop.strict name (.iface 2 (.int .i64 x))).run Tryf.prog w = .ok (Tryf.shape2, Go.Extern.Stop.digits 8 (x % 2 ^ 64).toNat) w := by kernel_rfl
@[go_sem] theorem Tryf.ptr53 (w : World) : (FmtStop.ptrTo "errors.errorString").run Tryf.prog w = .ok 53 w := by kernel_rfl
@[go_sem] theorem Tryf.elem53 (w : World) : (elemOf 53).run Tryf.prog w = .ok 55 w := by kernel_rfl
@[go_sem] theorem Tryf.isError53 (w : World) : (FmtDoors.textMethod 53 "Error").run Tryf.prog w = .ok true w := by kernel_rfl

set_option maxRecDepth 100000 in
set_option maxHeartbeats 1000000 in
theorem errorf_any (F : Interp) (x : Int) (b : Nat) (w : World) (hF : F.answers w.tape) (hc : w.cell? ⟨b, 0, none⟩ = some (.iface 2 (.int .i64 x))) :
    Calls Tryf.prog 12 #[.string ⟨#[116, 104, 101, 32, 116, 111, 116, 97, 108, 32, 111, 102, 32, 111, 114, 100, 101, 114, 32, 37, 100, 32, 105, 115, 32, 110, 111, 116, 32, 97, 110, 32, 97, 109, 111, 117, 110, 116, 32, 111, 102, 32, 99, 101, 110, 116, 115]⟩, .slice (some ⟨b, 0, none⟩) 1 1] w fun e w' => ∃ p, e = .returned (.iface 53 (.pointer (some p))) ∧ Below w.heap.size w w' := by
  have hF' := answers_open hF
  go_enter Tryf.func12, Tryf.ntmps12
  go_wp2
  go_ret
  exact ⟨_, rfl, ((Below.refl _ _).alloc (Nat.le_refl _) _).drew⟩

set_option maxRecDepth 100000 in
set_option maxHeartbeats 1000000 in
theorem total_any (F : Interp) (id cid : Int) (a : Option Addr) (n c : Nat) (L : List It) (w : World) (hF : F.answers w.tape) (hl : L.length = n) (hr : RowL w a L) (hg : Rng L) (hn : n ≤ 16384) :
    Calls Tryf.prog 8 #[.agg #[.int .i64 id, .int .i64 cid, .slice a n c]] w fun e w' =>
      ((fits (sumL L) ∧ e = .returned (.tuple #[.int .i64 (sumL L), .nilIface])) ∨ (¬ fits (sumL L) ∧ ∃ p, e = .returned (.tuple #[.int .i64 0, .iface 53 (.pointer (some p))]))) ∧ Below w.heap.size w w' := by
  have hr1 : RowL (w.alloc (.cells #[.int .i64 id, .int .i64 cid, .slice a n c] 32)) a L := hr.later ((Below.refl _ _).alloc (Nat.le_refl _) _)
  have cs := sum_any a n c L _ hl hr1 hg hn
  generalize sumL L = S at cs ⊢
  go_enter Tryf.func8, Tryf.ntmps8
  by_cases hf : fits S
  · rw [tot_fits hf] at cs
    go_wp2_with (go_at_call 11; refine cs.mono ?_; rintro e wK ⟨b, rfl, hb, hbK⟩; obtain rfl : b = 0 := hb.2 hf; clear hb)
    go_ret2
    exact ⟨.inl ⟨hf, rfl⟩, ((Below.refl _ _).alloc (Nat.le_refl _) _).trans (hbK.mono (by simp))⟩
  · rw [tot_not hf] at cs
    go_wp2_with (first
      | (go_at_call 11; refine cs.mono ?_; rintro e wK ⟨b, rfl, hb, hbK⟩; have hb0 : b ≠ 0 := fun h => hf (hb.1 h); clear hb; have x0 : wK.cell? ⟨w.heap.size, 0, none⟩ = some (.int .i64 id) := cell_kept hbK (World.cell?_alloc_at _ _ _ _ rfl); have hFK : F.answers wK.tape := (by rw [hbK.tape]; exact hF))
      | (go_at_call 12; refine (errorf_any F id wK.heap.size (wK.alloc (.cells #[.iface 2 (.int .i64 id)] 20)) hFK (World.cell?_alloc_at _ _ _ _ rfl)).mono ?_; rintro e wJ ⟨p, rfl, hbJ⟩))
    go_ret2
    have hb1 : Below w.heap.size w wK := ((Below.refl _ _).alloc (Nat.le_refl _) _).trans (hbK.mono (by simp))
    have hb2 := (Below.refl wK.heap.size wK).alloc (Nat.le_refl _) (.cells #[.iface 2 (.int .i64 id)] 20)
    exact ⟨.inr ⟨hf, p, rfl⟩, (hb1.trans (hb2.mono hb1.size)).trans (hbJ.mono (Nat.le_trans hb1.size hb2.size))⟩
end Go.Proofs.Qxb6627403aFmt
