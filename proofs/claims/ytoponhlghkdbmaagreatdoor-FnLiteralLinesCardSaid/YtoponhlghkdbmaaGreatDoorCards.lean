/-
  DERIVED. GIVEN WITH THE SEED: THE CARDS: each row of YtoponhlghkdbmaaGreatDoorRows.lean that lists a variable, with what it lists TIED to the program's text (the seventh form; the later family's looks); each row that meets fmt, with fmt's text TOLD by the authors' own Lean function (tested against real Go, not proved from fmt's source: count such statements apart). THE CARD IS WHAT COUNTS. Prove the row's statement (the work); the ties are given (YtoponhlghkdbmaaGreatDoorTie.lean); close each card by the builder's one call (the guide's Derived/Test/ToyasCard.lean, 'card_holds'). Laid BY PROGRAM, IN A SANDBOX (cutbox-door.mjs). By AI agents, Wed Nov 11 2026. No macro, syntax, notation, axiom, sorry.
-/
import Derived.Test.YtoponhlghkdbmaaGreatDoorRows
import GoSem.ClaimSeven
namespace Go.Proofs.YtoponhlghkdbmaaGreatDoor
namespace Rows

/-- THE TIED CARD OF 'laws.FnEscaped'. -/
def fnEscapedCard : Claim7 := { stood := { row := fnEscapedRow, standIns := [], harness := (true, "19be50dda9ffac19a3597d027d140119fb331097f9f0fa9d9eaedb89d2f0dca1"), looks := true }, kinds := [], alts := [], laidByText := true, laidKinds := [.data, .data, .data, .data, .sentinel, .sentinel, .data, .pinned], laidTests := true, laidLooks := .later }
def FnEscapedCardSaid : Prop := Claim7.holds Tryz.pinned (.plain (OpenSpec.ofChange fnEscapedSpec)) fnEscapedCard

/-- THE TIED CARD OF 'laws.FnLiteralLines'. -/
def fnLiteralLinesCard : Claim7 := { stood := { row := fnLiteralLinesRow, standIns := [], harness := (true, "19be50dda9ffac19a3597d027d140119fb331097f9f0fa9d9eaedb89d2f0dca1"), looks := true }, kinds := [], alts := [], laidByText := true, laidKinds := [.data, .data, .data, .data, .sentinel, .sentinel, .data, .pinned], laidTests := true, laidLooks := .later }
def FnLiteralLinesCardSaid : Prop := Claim7.holds Tryz.pinned (.plain (OpenSpec.ofChange fnLiteralLinesSpec)) fnLiteralLinesCard

/-- THE TIED CARD OF 'laws.FnSeven'. -/
def fnSevenCard : Claim7 := { stood := { row := fnSevenRow, standIns := [], harness := (true, "19be50dda9ffac19a3597d027d140119fb331097f9f0fa9d9eaedb89d2f0dca1"), looks := true }, kinds := [], alts := [], laidByText := true, laidKinds := [.data, .data, .data, .data, .sentinel, .sentinel, .data, .pinned], laidTests := true, laidLooks := .later }
def FnSevenCardSaid : Prop := Claim7.holds Tryz.pinned (.plain (OpenSpec.ofChange fnSevenSpec)) fnSevenCard

/-- THE SECOND FORM's CARD OF 'laws.FnEscaped'. -/
def fnEscapedUptoCard : Claim7 := { stood := { row := fnEscapedUptoRow, standIns := [], harness := (true, "19be50dda9ffac19a3597d027d140119fb331097f9f0fa9d9eaedb89d2f0dca1"), looks := true }, kinds := [], alts := [], laidByText := true, laidKinds := [.data, .data, .data, .data, .sentinel, .sentinel, .data, .pinned], laidTests := true, laidLooks := .later }
def FnEscapedUptoCardSaid : Prop := Claim7.holds Tryz.pinned (.plain (OpenSpec.upto fnEscapedSpec)) fnEscapedUptoCard

/-- THE SECOND FORM's CARD OF 'laws.FnLiteralLines'. -/
def fnLiteralLinesUptoCard : Claim7 := { stood := { row := fnLiteralLinesUptoRow, standIns := [], harness := (true, "19be50dda9ffac19a3597d027d140119fb331097f9f0fa9d9eaedb89d2f0dca1"), looks := true }, kinds := [], alts := [], laidByText := true, laidKinds := [.data, .data, .data, .data, .sentinel, .sentinel, .data, .pinned], laidTests := true, laidLooks := .later }
def FnLiteralLinesUptoCardSaid : Prop := Claim7.holds Tryz.pinned (.plain (OpenSpec.upto fnLiteralLinesSpec)) fnLiteralLinesUptoCard

/-- THE SECOND FORM's CARD OF 'laws.FnSeven'. -/
def fnSevenUptoCard : Claim7 := { stood := { row := fnSevenUptoRow, standIns := [], harness := (true, "19be50dda9ffac19a3597d027d140119fb331097f9f0fa9d9eaedb89d2f0dca1"), looks := true }, kinds := [], alts := [], laidByText := true, laidKinds := [.data, .data, .data, .data, .sentinel, .sentinel, .data, .pinned], laidTests := true, laidLooks := .later }
def FnSevenUptoCardSaid : Prop := Claim7.holds Tryz.pinned (.plain (OpenSpec.upto fnSevenSpec)) fnSevenUptoCard
end Rows
end Go.Proofs.YtoponhlghkdbmaaGreatDoor
