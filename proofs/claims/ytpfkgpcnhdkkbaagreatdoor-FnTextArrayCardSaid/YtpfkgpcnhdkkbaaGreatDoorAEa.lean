import Derived.Test.YtpfkgpcnhdkkbaaGreatDoorAEw
import Derived.Maps.AppendAt
import Derived.Lib.UnsafeStr
namespace Go.Proofs.YtpfkgpcnhdkkbaaGreatDoor
open Go.RowKit
set_option linter.unusedVariables false
set_option linter.unusedSimpArgs false

theorem info5 : (Tryz.prog.info? 5).map (fun i => (i.zero, i.size, i.bytes)) = some (some (.int .u8 0), 1, 1) := by kernel_rfl

def RB (w : World) (A : Option Addr) (l : List UInt8) : Prop := 0 < l.length → ∃ ad, A = some ad ∧ ∀ (j : Nat) (b : UInt8), l[j]? = some b → w.cell? (ad.add j) = some (.int .u8 (b.toNat : Int))

end Go.Proofs.YtpfkgpcnhdkkbaaGreatDoor
