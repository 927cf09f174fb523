/- FnExtRelaxed: the closed facts of its row, and a start that fits. -/
import Derived.Test.YtpfkgpcnhdkkbaaGreatDoorCards
import Derived.WalkKit
import Derived.ProofKit
import Derived.OpenShut
import Derived.ChangeOld
import Derived.Below
import Derived.Deep.DeepHandedRow
import Derived.Lay
import Derived.MakeChecks
import Derived.LaidOnce
namespace Go.Proofs.YtpfkgpcnhdkkbaaGreatDoor.extRelaxed
open Go.ChangeShapes Go.WideShapes Go.ChangeAt Go.RowKit
set_option linter.unusedVariables false
theorem own : ownKnob Tryz.prog.godebug = none := by kernel_rfl
theorem laidOut : laidOutB Tryz.prog = true := by kernel_rfl
theorem plainLaid (W : World) (h : laidMetH Tryz.prog Rows.fnExtRelaxedRow.laid W) : laidMet Tryz.prog Rows.fnExtRelaxedRow.laid W := by
  rw [MakeChecks.laidMetH_plain _ _ _ (by kernel_rfl)] at h
  exact h
def zeroArg : Value := .agg #[.int .i64 0, .string ByteArray.empty, .string ByteArray.empty, .int .i64 0, .int .u64 0, .int .u64 0, .slice none 0 0, .slice none 0 0]
theorem laid_met (os : Os) : laidMet Tryz.prog Rows.fnExtRelaxedRow.laid ((World.laidAll Tryz.prog os Rows.fnExtRelaxedRow.laid).forCall (fun _ _ => 0) ⟨#[], #[zeroArg, .bool false], []⟩).memory :=
  laidMet_laidAll _ (by kernel_rfl) (by kernel_rfl)
theorem reads (os : Os) {H : Type} (enc : TypeId × Value → H) : ∃ places, DataW.whole enc Tryz.prog ((World.laidAll Tryz.prog os Rows.fnExtRelaxedRow.laid).forCall (fun _ _ => 0) ⟨#[], #[zeroArg, .bool false], []⟩).memory Tryz.f3.params.toList Rows.fnExtRelaxedSpec.vars false #[zeroArg, Value.bool false].toList 8 = some ([.agg [.lit (.int .i64 0), .lit (.string []), .lit (.string []), .lit (.int .i64 0), .lit (.int .u64 0), .lit (.int .u64 0), .nil, .nil], .lit (.bool false)], [], places) :=
  ⟨[], by kernel_rfl⟩
set_option maxRecDepth 100000 in
theorem witness (os : Os) (H : Type) (enc : TypeId × Value → H) : ∃ (w : World) (tape : Tape) (i : Input), w.os = os ∧ (w.forCall tape i).Shaped Tryz.checked.prog ∧ i.vars = [] ∧ Input.okWide Tryz.checked.prog (w.forCall tape i) .any w.heap.size 3 i ∧
    (OpenSpec.ofChange Rows.fnExtRelaxedSpec).preRow enc Tryz.checked.prog Tryz.f3 Rows.fnExtRelaxedRow.domain false Rows.fnExtRelaxedRow.laid (w.forCall tape i).memory i.args ∧ ({} : Assume).holds Tryz.checked.prog (lone (Frame.enter Tryz.checked.prog 3 i.args .normal) [] (w.forCall tape i)) := by
  obtain ⟨places, hx⟩ := reads os enc
  have hok : Input.okWideB Tryz.prog ((World.laidAll Tryz.prog os Rows.fnExtRelaxedRow.laid).forCall (fun _ _ => 0) ⟨#[], #[zeroArg, .bool false], []⟩) 3 ⟨#[], #[zeroArg, .bool false], []⟩ = true := by kernel_rfl
  exact ⟨World.laidAll Tryz.prog os Rows.fnExtRelaxedRow.laid, fun _ _ => 0, ⟨#[], #[zeroArg, .bool false], []⟩, World.laidAll_os _ _ _, World.shaped_of_ZipB (by kernel_rfl) (by kernel_rfl), (Input.okWide_of_okWideB (base := 0) hok).1, (Input.okWide_of_okWideB hok).2,
      OpenSpec.preRow_of_cond 8 hx (by kernel_rfl) (fun k hk => by cases hk) (by kernel_rfl) (laid_met os), by
        simp only [Assume.holds]
        exact ⟨by simp, by simp, fun _ => Modest.zero, by simp, by simp⟩⟩
theorem hfnF : Tryz.pinned.checked.prog.funcNamed Rows.fnExtRelaxedRow.func = some 3 := by kernel_rfl
theorem closedF : joinedFacts Tryz.pinned.checked.prog 3 Tryz.f3 (OpenSpec.ofChange Rows.fnExtRelaxedSpec).bare Rows.fnExtRelaxedRow = true := by kernel_rfl
theorem instF : Tryz.f3.isInstance Tryz.pinned.checked.prog Rows.fnExtRelaxedRow.origin Rows.fnExtRelaxedRow.targs := of_decide_eq_true (by kernel_rfl)
theorem wrapF : Tryz.f3.isWrapper Tryz.pinned.checked.prog Rows.fnExtRelaxedRow.wrapper Rows.fnExtRelaxedRow.mainSum := by
  unfold Func.isWrapper
  first | (rw [if_pos (by decide +kernel)]; kernel_rfl) | (rw [if_neg (by decide +kernel)]; exact ⟨rfl, rfl⟩)
theorem plain (f : FuncId) (fn : Func) (hf : Tryz.pinned.checked.prog.funcNamed "pub-gunnysack/laws.FnExtRelaxed" = some f) (hfn : Tryz.pinned.checked.prog.funcs[f]? = some fn) :
    false = Tryz.pinned.checked.prog.looks [] ∧ ∀ (j : Nat) t, fn.params[j]? = some t → Tryz.pinned.checked.prog.wantsStandIn t = false := by
  obtain rfl : f = 3 := Option.some.inj ((show Tryz.prog.funcNamed "pub-gunnysack/laws.FnExtRelaxed" = some 3 by kernel_rfl).symm.trans hf) |>.symm
  obtain rfl : fn = Tryz.f3 := (Option.some.inj (Tryz.func3.symm.trans hfn)).symm
  refine ⟨by kernel_rfl, fun j t ht => ?_⟩
  rw [Tryz.params3] at ht
  have h2 : t = 26 ∨ t = 4 := by simpa using Array.mem_of_getElem? ht
  rcases h2 with rfl | rfl
  · exact (show Tryz.prog.wantsStandIn 26 = false by kernel_rfl)
  · exact (show Tryz.prog.wantsStandIn 4 = false by kernel_rfl)
end Go.Proofs.YtpfkgpcnhdkkbaaGreatDoor.extRelaxed
