/- writeScalarExt, kind by kind. -/
import Derived.Test.YtpfkgpcnhdkkbaaGreatDoorAMf
import Derived.Test.YtpfkgpcnhdkkbaaGreatDoorAGt
import Derived.Test.YtpfkgpcnhdkkbaaGreatDoorAMe
namespace Go.Proofs.YtpfkgpcnhdkkbaaGreatDoor
open Go.RowKit
set_option linter.unusedVariables false
set_option linter.unusedSimpArgs false
end Go.Proofs.YtpfkgpcnhdkkbaaGreatDoor
