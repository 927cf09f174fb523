import Derived.Test.YtpfkgpcnhdkkbaaGreatDoorNGs
import Derived.Test.YtpfkgpcnhdkkbaaGreatDoorNGj
import Derived.Test.YtpfkgpcnhdkkbaaGreatDoorNGm
import Derived.Test.YtpfkgpcnhdkkbaaGreatDoorNFm
import Derived.Lib.ItoaLen
import Derived.Lib.AppendIntMem
namespace Go.Proofs.YtpfkgpcnhdkkbaaGreatDoor
open Go.RowKit
set_option linter.unusedVariables false
set_option linter.unusedSimpArgs false
theorem fresh_b (w : World) : IsB w.heap.size w.heap.size [] (w.alloc (.cells #[.slice none 0 0, .int .i64 0, .int .i8 0] 64)) := Lib.fresh_isBuffer 64 5 w
theorem IsB.drewN {B b : Nat} {l : List UInt8} {w : World} (h : IsB B b l w) (n : Nat) : IsB B b l (w.drewN n) := h
end Go.Proofs.YtpfkgpcnhdkkbaaGreatDoor
