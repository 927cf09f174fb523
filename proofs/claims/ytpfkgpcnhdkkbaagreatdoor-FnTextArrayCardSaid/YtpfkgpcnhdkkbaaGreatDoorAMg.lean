import Derived.Test.YtpfkgpcnhdkkbaaGreatDoorAGs
import Derived.Test.YtpfkgpcnhdkkbaaGreatDoorAGj
import Derived.Test.YtpfkgpcnhdkkbaaGreatDoorAGm
import Derived.Test.YtpfkgpcnhdkkbaaGreatDoorAFm
import Derived.Lib.ItoaLen
import Derived.Lib.AppendIntMem
namespace Go.Proofs.YtpfkgpcnhdkkbaaGreatDoor
open Go.RowKit
set_option linter.unusedVariables false
set_option linter.unusedSimpArgs false
theorem fresh_b (w : World) : IsB w.heap.size w.heap.size [] (w.alloc (.cells #[.slice none 0 0, .int .i64 0, .int .i8 0] 64)) := Lib.fresh_isBuffer 64 5 w
end Go.Proofs.YtpfkgpcnhdkkbaaGreatDoor
