/- FnTextNothing: the closed facts of its row, and a start that fits. -/
import Derived.Test.YtpfkgpcnhdkkbaaGreatDoorCards
import Derived.WalkKit
import Derived.ProofKit
import Derived.OpenShut
import Derived.ChangeOld
import Derived.Below
import Derived.Deep.DeepHandedRow
import Derived.Lay
import Derived.MakeChecks
import Derived.LaidOnce
namespace Go.Proofs.YtpfkgpcnhdkkbaaGreatDoor.textNothing
open Go.ChangeShapes Go.WideShapes Go.ChangeAt Go.RowKit
set_option linter.unusedVariables false
theorem own : ownKnob Tryz.prog.godebug = none := by kernel_rfl
theorem laidOut : laidOutB Tryz.prog = true := by kernel_rfl
theorem plainLaid (W : World) (h : laidMetH Tryz.prog Rows.fnTextNothingRow.laid W) : laidMet Tryz.prog Rows.fnTextNothingRow.laid W := by
  rw [MakeChecks.laidMetH_plain _ _ _ (by kernel_rfl)] at h
  exact h
def zeroArg : Value := .agg #[.int .i64 0, .string ByteArray.empty, .string ByteArray.empty, .int .i64 0, .int .u64 0, .int .u64 0, .slice none 0 0, .slice none 0 0]
theorem laid_met (os : Os) : laidMet Tryz.prog Rows.fnTextNothingRow.laid ((World.laidAll Tryz.prog os Rows.fnTextNothingRow.laid).forCall (fun _ _ => 0) ⟨#[], #[zeroArg, .int .u8 0], []⟩).memory :=
  laidMet_laidAll _ (by kernel_rfl) (by kernel_rfl)
theorem reads (os : Os) {H : Type} (enc : TypeId × Value → H) : ∃ places, DataW.whole enc Tryz.prog ((World.laidAll Tryz.prog os Rows.fnTextNothingRow.laid).forCall (fun _ _ => 0) ⟨#[], #[zeroArg, .int .u8 0], []⟩).memory Tryz.f4.params.toList Rows.fnTextNothingSpec.vars false #[zeroArg, Value.int .u8 0].toList 8 = some ([.agg [.lit (.int .i64 0), .lit (.string []), .lit (.string []), .lit (.int .i64 0), .lit (.int .u64 0), .lit (.int .u64 0), .nil, .nil], .lit (.int .u8 0)], [], places) :=
  ⟨[], by kernel_rfl⟩
set_option maxRecDepth 100000 in
theorem witness (os : Os) (H : Type) (enc : TypeId × Value → H) : ∃ (w : World) (tape : Tape) (i : Input), w.os = os ∧ (w.forCall tape i).Shaped Tryz.checked.prog ∧ i.vars = [] ∧ Input.okWide Tryz.checked.prog (w.forCall tape i) .any w.heap.size 4 i ∧
    (OpenSpec.ofChange Rows.fnTextNothingSpec).preRow enc Tryz.checked.prog Tryz.f4 Rows.fnTextNothingRow.domain false Rows.fnTextNothingRow.laid (w.forCall tape i).memory i.args ∧ ({} : Assume).holds Tryz.checked.prog (lone (Frame.enter Tryz.checked.prog 4 i.args .normal) [] (w.forCall tape i)) := by
  obtain ⟨places, hx⟩ := reads os enc
  have hok : Input.okWideB Tryz.prog ((World.laidAll Tryz.prog os Rows.fnTextNothingRow.laid).forCall (fun _ _ => 0) ⟨#[], #[zeroArg, .int .u8 0], []⟩) 4 ⟨#[], #[zeroArg, .int .u8 0], []⟩ = true := by kernel_rfl
  exact ⟨World.laidAll Tryz.prog os Rows.fnTextNothingRow.laid, fun _ _ => 0, ⟨#[], #[zeroArg, .int .u8 0], []⟩, World.laidAll_os _ _ _, World.shaped_of_ZipB (by kernel_rfl) (by kernel_rfl), (Input.okWide_of_okWideB (base := 0) hok).1, (Input.okWide_of_okWideB hok).2,
      OpenSpec.preRow_of_cond 8 hx (by kernel_rfl) (fun k hk => by cases hk) (by kernel_rfl) (laid_met os), by
        simp only [Assume.holds]
        exact ⟨by simp, by simp, fun _ => Modest.zero, by simp, by simp⟩⟩
theorem hfnF : Tryz.pinned.checked.prog.funcNamed Rows.fnTextNothingRow.func = some 4 := by kernel_rfl
theorem closedF : joinedFacts Tryz.pinned.checked.prog 4 Tryz.f4 (OpenSpec.ofChange Rows.fnTextNothingSpec).bare Rows.fnTextNothingRow = true := by kernel_rfl
theorem instF : Tryz.f4.isInstance Tryz.pinned.checked.prog Rows.fnTextNothingRow.origin Rows.fnTextNothingRow.targs := of_decide_eq_true (by kernel_rfl)
theorem wrapF : Tryz.f4.isWrapper Tryz.pinned.checked.prog Rows.fnTextNothingRow.wrapper Rows.fnTextNothingRow.mainSum := by
  unfold Func.isWrapper
  first | (rw [if_pos (by decide +kernel)]; kernel_rfl) | (rw [if_neg (by decide +kernel)]; exact ⟨rfl, rfl⟩)
theorem plain (f : FuncId) (fn : Func) (hf : Tryz.pinned.checked.prog.funcNamed "pub-gunnysack/laws.FnTextNothing" = some f) (hfn : Tryz.pinned.checked.prog.funcs[f]? = some fn) :
    false = Tryz.pinned.checked.prog.looks [] ∧ ∀ (j : Nat) t, fn.params[j]? = some t → Tryz.pinned.checked.prog.wantsStandIn t = false := by
  obtain rfl : f = 4 := Option.some.inj ((show Tryz.prog.funcNamed "pub-gunnysack/laws.FnTextNothing" = some 4 by kernel_rfl).symm.trans hf) |>.symm
  obtain rfl : fn = Tryz.f4 := (Option.some.inj (Tryz.func4.symm.trans hfn)).symm
  refine ⟨by kernel_rfl, fun j t ht => ?_⟩
  rw [Tryz.params4] at ht
  have h2 : t = 26 ∨ t = 5 := by simpa using Array.mem_of_getElem? ht
  rcases h2 with rfl | rfl
  · exact (show Tryz.prog.wantsStandIn 26 = false by kernel_rfl)
  · exact (show Tryz.prog.wantsStandIn 5 = false by kernel_rfl)
end Go.Proofs.YtpfkgpcnhdkkbaaGreatDoor.textNothing
