/- FnTextArray: the closed facts of its row, and a start that fits. -/
import Derived.Test.YtpfkgpcnhdkkbaaGreatDoorCards
import Derived.WalkKit
import Derived.ProofKit
import Derived.OpenShut
import Derived.ChangeOld
import Derived.Below
import Derived.Deep.DeepHandedRow
import Derived.Lay
import Derived.MakeChecks
import Derived.LaidOnce
namespace Go.Proofs.YtpfkgpcnhdkkbaaGreatDoor.textArray
open Go.ChangeShapes Go.WideShapes Go.ChangeAt Go.RowKit
set_option linter.unusedVariables false
theorem own : ownKnob Tryz.prog.godebug = none := by kernel_rfl
theorem laidOut : laidOutB Tryz.prog = true := by kernel_rfl
theorem plainLaid (W : World) (h : laidMetH Tryz.prog Rows.fnTextArrayRow.laid W) : laidMet Tryz.prog Rows.fnTextArrayRow.laid W := by
 rw [MakeChecks.laidMetH_plain _ _ _ (by kernel_rfl)] at h
 exact h
def zeroArg : Value := .agg #[.int .i64 0, .string ByteArray.empty, .string ByteArray.empty, .int .i64 0, .int .u64 0, .int .u64 0, .slice none 0 0, .slice none 0 0]
theorem laid_met (os : Os) : laidMet Tryz.prog Rows.fnTextArrayRow.laid ((World.laidAll Tryz.prog os Rows.fnTextArrayRow.laid).forCall (fun _ _ => 0) ⟨#[], #[zeroArg, .int .u16 0], []⟩).memory :=
 laidMet_laidAll _ (by kernel_rfl) (by kernel_rfl)
theorem reads (os : Os) {H : Type} (enc : TypeId × Value → H) : ∃ places, DataW.whole enc Tryz.prog ((World.laidAll Tryz.prog os Rows.fnTextArrayRow.laid).forCall (fun _ _ => 0) ⟨#[], #[zeroArg, .int .u16 0], []⟩).memory Tryz.f6.params.toList Rows.fnTextArraySpec.vars false #[zeroArg, Value.int .u16 0].toList 8 = some ([.agg [.lit (.int .i64 0), .lit (.string []), .lit (.string []), .lit (.int .i64 0), .lit (.int .u64 0), .lit (.int .u64 0), .nil, .nil], .lit (.int .u16 0)], [], places) :=
 ⟨[], by kernel_rfl⟩
set_option maxRecDepth 100000 in
theorem witness (os : Os) (H : Type) (enc : TypeId × Value → H) : ∃ (w : World) (tape : Tape) (i : Input), w.os = os ∧ (w.forCall tape i).Shaped Tryz.checked.prog ∧ i.vars = [] ∧ Input.okWide Tryz.checked.prog (w.forCall tape i) .any w.heap.size 6 i ∧
  (OpenSpec.ofChange Rows.fnTextArraySpec).preRow enc Tryz.checked.prog Tryz.f6 Rows.fnTextArrayRow.domain false Rows.fnTextArrayRow.laid (w.forCall tape i).memory i.args ∧ ({} : Assume).holds Tryz.checked.prog (lone (Frame.enter Tryz.checked.prog 6 i.args .normal) [] (w.forCall tape i)) := by
 obtain ⟨places, hx⟩ := reads os enc
 have hok : Input.okWideB Tryz.prog ((World.laidAll Tryz.prog os Rows.fnTextArrayRow.laid).forCall (fun _ _ => 0) ⟨#[], #[zeroArg, .int .u16 0], []⟩) 6 ⟨#[], #[zeroArg, .int .u16 0], []⟩ = true := by kernel_rfl
 exact ⟨World.laidAll Tryz.prog os Rows.fnTextArrayRow.laid, fun _ _ => 0, ⟨#[], #[zeroArg, .int .u16 0], []⟩, World.laidAll_os _ _ _, World.shaped_of_ZipB (by kernel_rfl) (by kernel_rfl), (Input.okWide_of_okWideB (base := 0) hok).1, (Input.okWide_of_okWideB hok).2,
   OpenSpec.preRow_of_cond 8 hx (by kernel_rfl) (fun k hk => by cases hk) (by kernel_rfl) (laid_met os), by
    simp only [Assume.holds]
    exact ⟨by simp, by simp, fun _ => Modest.zero, by simp, by simp⟩⟩
theorem hfnF : Tryz.pinned.checked.prog.funcNamed Rows.fnTextArrayRow.func = some 6 := by kernel_rfl
theorem closedF : joinedFacts Tryz.pinned.checked.prog 6 Tryz.f6 (OpenSpec.ofChange Rows.fnTextArraySpec).bare Rows.fnTextArrayRow = true := by kernel_rfl
theorem instF : Tryz.f6.isInstance Tryz.pinned.checked.prog Rows.fnTextArrayRow.origin Rows.fnTextArrayRow.targs := of_decide_eq_true (by kernel_rfl)
theorem wrapF : Tryz.f6.isWrapper Tryz.pinned.checked.prog Rows.fnTextArrayRow.wrapper Rows.fnTextArrayRow.mainSum := by
 unfold Func.isWrapper
 first | (rw [if_pos (by decide +kernel)]; kernel_rfl) | (rw [if_neg (by decide +kernel)]; exact ⟨rfl, rfl⟩)
theorem plain (f : FuncId) (fn : Func) (hf : Tryz.pinned.checked.prog.funcNamed "pub-gunnysack/laws.FnTextArray" = some f) (hfn : Tryz.pinned.checked.prog.funcs[f]? = some fn) :
  false = Tryz.pinned.checked.prog.looks [] ∧ ∀ (j : Nat) t, fn.params[j]? = some t → Tryz.pinned.checked.prog.wantsStandIn t = false := by
 obtain rfl : f = 6 := Option.some.inj ((show Tryz.prog.funcNamed "pub-gunnysack/laws.FnTextArray" = some 6 by kernel_rfl).symm.trans hf) |>.symm
 obtain rfl : fn = Tryz.f6 := (Option.some.inj (Tryz.func6.symm.trans hfn)).symm
 refine ⟨by kernel_rfl, fun j t ht => ?_⟩
 rw [Tryz.params6] at ht
 have h2 : t = 26 ∨ t = 36 := by simpa using Array.mem_of_getElem? ht
 rcases h2 with rfl | rfl
 ·exact (show Tryz.prog.wantsStandIn 26 = false by kernel_rfl)
 ·exact (show Tryz.prog.wantsStandIn 36 = false by kernel_rfl)
end Go.Proofs.YtpfkgpcnhdkkbaaGreatDoor.textArray
