/- Contracts of the bodiless floating-point functions and of math's IsNaN, IsInf, Abs and NaN, over this program; no condition. -/
import Derived.Test.YtpfkgpcnhdkkbaaGreatDoorChecked
import Derived.WalkKit
import Derived.WalkLawsBesides
import Derived.WalkSpells
import Derived.KernelRfl
import Derived.Lib.Hide
import Derived.Deep.QuietTactic
import Derived.BigQuiet
import Derived.Lib.Buffer
import Derived.Lib.OthersKept
import Derived.Lib.SmallJoins
import Derived.Lib.ConvBytes
import Derived.Lib.LaidTab
namespace Go.Proofs.YtpfkgpcnhdkkbaaGreatDoor
open Go.RowKit
theorem LH {p : Prop} (h : p) : Hid p := Lib.hid h

@[go_sem] theorem run26 (n : Int) (w : World) : (callFunc 26 #[.int .u64 n]).run Tryz.prog w = .ok (.value (.float .f64 n.toNat)) w := by
 rw [run_callFunc_extern (e := Extern.MathFloatBits.float64frombits) Tryz.func26 (by kernel_rfl) (by kernel_rfl) (by kernel_rfl) (by kernel_rfl)]
 rfl
@[go_sem] theorem run55 (b : Nat) (w : World) : (callFunc 55 #[.float .f64 b]).run Tryz.prog w = .ok (.value (.int .u64 b)) w := by
 rw [run_callFunc_extern (e := Extern.MathFloatBits.float64bits) Tryz.func55 (by kernel_rfl) (by kernel_rfl) (by kernel_rfl) (by kernel_rfl)]
 rfl
@[go_sem] theorem run200 (b : Nat) (w : World) : (callFunc 200 #[.float .f64 b]).run Tryz.prog w = .ok (.value (.int .u64 b)) w := by
 rw [run_callFunc_extern (e := Extern.MathFloatBits.float64bits) Tryz.func200 (by kernel_rfl) (by kernel_rfl) (by kernel_rfl) (by kernel_rfl)]
 rfl

@[go_sem] theorem unary_neg_float (k : FloatKind) (b : Nat) : Op.unary .neg (.float k b) = pure (.float k (Op.negFloat k b)) := rfl

def fNaN (b : Nat) : Bool := FloatKind.f64.format.order b b != some Ordering.eq
def fBig (b : Nat) : Bool := FloatKind.f64.format.order b 9218868437227405311 == some Ordering.gt
theorem isNaN_any (b : Nat) (w : World) : Calls Tryz.prog 28 #[.float .f64 b] w fun e w' => e = .returned (.bool (fNaN b)) ∧ w = w' := by
 go_enter Tryz.func28, Tryz.ntmps28
 go_wp2
 go_ret
 exact ⟨rfl, rfl⟩
theorem nan_any (w : World) : Calls Tryz.prog 56 #[] w fun e w' => e = .returned (.float .f64 9221120237041090561) ∧ w = w' := by
 go_enter Tryz.func56, Tryz.ntmps56
 go_wp2
 go_ret
 exact ⟨rfl, rfl⟩
theorem abs_any (b : Nat) (w : World) : Calls Tryz.prog 60 #[.float .f64 b] w fun e w' => e = .returned (.float .f64 (bits .andNot .u64 b 9223372036854775808).toNat) ∧ w = w' := by
 go_enter Tryz.func60, Tryz.ntmps60
 go_wp2
 go_ret
 exact ⟨rfl, rfl⟩
theorem isInf_any (b : Nat) (w : World) : Calls Tryz.prog 29 #[.float .f64 b, .int .i64 1] w fun e w' => e = .returned (.bool (fBig b)) ∧ w = w' := by
 go_enter Tryz.func29, Tryz.ntmps29
 go_wp2
 go_ret
 exact ⟨rfl, rfl⟩
theorem isInf_neg (b : Nat) (w : World) : Calls Tryz.prog 29 #[.float .f64 b, .int .i64 (-1)] w fun e w' => e = .returned (.bool (fBig (Op.negFloat .f64 b))) ∧ w = w' := by
 go_enter Tryz.func29, Tryz.ntmps29
 go_wp2
 go_ret
 exact ⟨rfl, rfl⟩
theorem isInf_zero (b : Nat) (w : World) : Calls Tryz.prog 29 #[.float .f64 b, .int .i64 0] w fun e w' => e = .returned (.bool (fBig (bits .andNot .u64 b 9223372036854775808).toNat)) ∧ w = w' := by
 go_enter Tryz.func29, Tryz.ntmps29
 go_wp2_with (go_at_call 60; refine (abs_any _ _).mono ?_; rintro e w' ⟨rfl, rfl⟩)
 go_ret
 exact ⟨rfl, rfl⟩
end Go.Proofs.YtpfkgpcnhdkkbaaGreatDoor
