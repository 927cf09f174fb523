/-
  DERIVED. GIVEN WITH THE SEED: THE CARDS: each row of YtpfkgpcnhdkkbaaGreatDoorRows.lean that lists a variable, with what it lists TIED to the program's text (the seventh form; the later family's looks); each row that meets fmt, with fmt's text TOLD by the authors' own Lean function (tested against real Go, not proved from fmt's source: count such statements apart). THE CARD IS WHAT COUNTS. Prove the row's statement (the work); the ties are given (YtpfkgpcnhdkkbaaGreatDoorTie.lean); close each card by the builder's one call (the guide's Derived/Test/ToyasCard.lean, 'card_holds'). Laid BY PROGRAM, IN A SANDBOX (cutbox-door.mjs). By AI agents, Wed Nov 11 2026. No macro, syntax, notation, axiom, sorry.
-/
import Derived.Test.YtpfkgpcnhdkkbaaGreatDoorRows
import GoSem.ClaimSeven
namespace Go.Proofs.YtpfkgpcnhdkkbaaGreatDoor
namespace Rows

/-- THE TIED CARD OF 'laws.FnExtRelaxed'. -/
def fnExtRelaxedCard : Claim7 := { stood := { row := fnExtRelaxedRow, standIns := [], harness := (true, "26e301e080fdf011c4035403f2129a685f50a4d5833e904e1e823c4154de2b37"), looks := false }, kinds := [], alts := [], laidByText := true, laidKinds := [.data, .data, .data, .data, .data, .sentinel, .data, .data, .sentinel, .pinned, .pinned, .pinned], laidTests := true, laidLooks := .later }
def FnExtRelaxedCardSaid : Prop := Claim7.holds Tryz.pinned (.plain (OpenSpec.ofChange fnExtRelaxedSpec)) fnExtRelaxedCard

/-- THE TIED CARD OF 'laws.FnTextNothing'. -/
def fnTextNothingCard : Claim7 := { stood := { row := fnTextNothingRow, standIns := [], harness := (true, "26e301e080fdf011c4035403f2129a685f50a4d5833e904e1e823c4154de2b37"), looks := false }, kinds := [], alts := [], laidByText := true, laidKinds := [.data, .data, .data, .data, .data, .sentinel, .data, .data, .pinned, .pinned, .pinned], laidTests := true, laidLooks := .later }
def FnTextNothingCardSaid : Prop := Claim7.holds Tryz.pinned (.plain (OpenSpec.ofChange fnTextNothingSpec)) fnTextNothingCard

/-- THE TIED CARD OF 'laws.FnTextDocument'. -/
def fnTextDocumentCard : Claim7 := { stood := { row := fnTextDocumentRow, standIns := [], harness := (true, "26e301e080fdf011c4035403f2129a685f50a4d5833e904e1e823c4154de2b37"), looks := false }, kinds := [], alts := [], laidByText := true, laidKinds := [.data, .data, .data, .data, .data, .sentinel, .data, .data, .pinned, .pinned, .pinned], laidTests := true, laidLooks := .later }
def FnTextDocumentCardSaid : Prop := Claim7.holds Tryz.pinned (.plain (OpenSpec.ofChange fnTextDocumentSpec)) fnTextDocumentCard

/-- THE TIED CARD OF 'laws.FnTextArray'. -/
def fnTextArrayCard : Claim7 := { stood := { row := fnTextArrayRow, standIns := [], harness := (true, "26e301e080fdf011c4035403f2129a685f50a4d5833e904e1e823c4154de2b37"), looks := false }, kinds := [], alts := [], laidByText := true, laidKinds := [.data, .data, .data, .data, .data, .sentinel, .data, .data, .pinned, .pinned, .pinned], laidTests := true, laidLooks := .later }
def FnTextArrayCardSaid : Prop := Claim7.holds Tryz.pinned (.plain (OpenSpec.ofChange fnTextArraySpec)) fnTextArrayCard

/-- THE SECOND FORM's CARD OF 'laws.FnExtRelaxed'. -/
def fnExtRelaxedUptoCard : Claim7 := { stood := { row := fnExtRelaxedUptoRow, standIns := [], harness := (true, "26e301e080fdf011c4035403f2129a685f50a4d5833e904e1e823c4154de2b37"), looks := false }, kinds := [], alts := [], laidByText := true, laidKinds := [.data, .data, .data, .data, .data, .sentinel, .data, .data, .sentinel, .pinned, .pinned, .pinned], laidTests := true, laidLooks := .later }
def FnExtRelaxedUptoCardSaid : Prop := Claim7.holds Tryz.pinned (.plain (OpenSpec.upto fnExtRelaxedSpec)) fnExtRelaxedUptoCard

/-- THE SECOND FORM's CARD OF 'laws.FnTextNothing'. -/
def fnTextNothingUptoCard : Claim7 := { stood := { row := fnTextNothingUptoRow, standIns := [], harness := (true, "26e301e080fdf011c4035403f2129a685f50a4d5833e904e1e823c4154de2b37"), looks := false }, kinds := [], alts := [], laidByText := true, laidKinds := [.data, .data, .data, .data, .data, .sentinel, .data, .data, .pinned, .pinned, .pinned], laidTests := true, laidLooks := .later }
def FnTextNothingUptoCardSaid : Prop := Claim7.holds Tryz.pinned (.plain (OpenSpec.upto fnTextNothingSpec)) fnTextNothingUptoCard

/-- THE SECOND FORM's CARD OF 'laws.FnTextDocument'. -/
def fnTextDocumentUptoCard : Claim7 := { stood := { row := fnTextDocumentUptoRow, standIns := [], harness := (true, "26e301e080fdf011c4035403f2129a685f50a4d5833e904e1e823c4154de2b37"), looks := false }, kinds := [], alts := [], laidByText := true, laidKinds := [.data, .data, .data, .data, .data, .sentinel, .data, .data, .pinned, .pinned, .pinned], laidTests := true, laidLooks := .later }
def FnTextDocumentUptoCardSaid : Prop := Claim7.holds Tryz.pinned (.plain (OpenSpec.upto fnTextDocumentSpec)) fnTextDocumentUptoCard

/-- THE SECOND FORM's CARD OF 'laws.FnTextArray'. -/
def fnTextArrayUptoCard : Claim7 := { stood := { row := fnTextArrayUptoRow, standIns := [], harness := (true, "26e301e080fdf011c4035403f2129a685f50a4d5833e904e1e823c4154de2b37"), looks := false }, kinds := [], alts := [], laidByText := true, laidKinds := [.data, .data, .data, .data, .data, .sentinel, .data, .data, .pinned, .pinned, .pinned], laidTests := true, laidLooks := .later }
def FnTextArrayUptoCardSaid : Prop := Claim7.holds Tryz.pinned (.plain (OpenSpec.upto fnTextArraySpec)) fnTextArrayUptoCard
end Rows
end Go.Proofs.YtpfkgpcnhdkkbaaGreatDoor
