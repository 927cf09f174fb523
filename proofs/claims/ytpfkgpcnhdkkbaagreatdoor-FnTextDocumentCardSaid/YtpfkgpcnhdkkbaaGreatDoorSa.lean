/- writeScalarExt, kind by kind. -/
import Derived.Test.YtpfkgpcnhdkkbaaGreatDoorMf
import Derived.Test.YtpfkgpcnhdkkbaaGreatDoorGt
import Derived.Test.YtpfkgpcnhdkkbaaGreatDoorMe
namespace Go.Proofs.YtpfkgpcnhdkkbaaGreatDoor
open Go.RowKit
set_option linter.unusedVariables false
set_option linter.unusedSimpArgs false
end Go.Proofs.YtpfkgpcnhdkkbaaGreatDoor
