import Derived.Test.YtpfkgpcnhdkkbaaGreatDoorAMf
namespace Go.Proofs.YtpfkgpcnhdkkbaaGreatDoor
open Go.RowKit
set_option linter.unusedVariables false
set_option linter.unusedSimpArgs false
def meV (g : Nat) : Value := .tuple #[.iface 65 (.pointer (some ⟨g, 0, none⟩)), .nilIface]
def keyB (esc : Bool) (s : ByteArray) : ByteArray := ⟨(jout esc s).toArray⟩ ++ ⟨#[58]⟩
def fresh64 : Obj := .cells #[.slice none 0 0, .int .i64 0, .int .i8 0] 64 (0, 0)
end Go.Proofs.YtpfkgpcnhdkkbaaGreatDoor
