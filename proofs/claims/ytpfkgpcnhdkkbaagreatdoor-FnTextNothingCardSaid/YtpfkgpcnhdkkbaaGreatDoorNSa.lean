/- writeScalarExt, kind by kind. -/
import Derived.Test.YtpfkgpcnhdkkbaaGreatDoorNMf
import Derived.Test.YtpfkgpcnhdkkbaaGreatDoorNGt
import Derived.Test.YtpfkgpcnhdkkbaaGreatDoorNMe
namespace Go.Proofs.YtpfkgpcnhdkkbaaGreatDoor
open Go.RowKit
set_option linter.unusedVariables false
set_option linter.unusedSimpArgs false
end Go.Proofs.YtpfkgpcnhdkkbaaGreatDoor
