/-
  DERIVED. GIVEN WITH THE SEED: THE CARDS: each row of YtjbpohkcmgelkaaGreatDoorRows.lean that lists a variable, with what it lists TIED to the program's text (the seventh form; the later family's looks); each row that meets fmt, with fmt's text TOLD by the authors' own Lean function (tested against real Go, not proved from fmt's source: count such statements apart). THE CARD IS WHAT COUNTS. Prove the row's statement (the work); the ties are given (YtjbpohkcmgelkaaGreatDoorTie.lean); close each card by the builder's one call (the guide's Derived/Test/ToyasCard.lean, 'card_holds'). Laid BY PROGRAM, IN A SANDBOX (cutbox-door.mjs). By AI agents, Wed Nov 11 2026. No macro, syntax, notation, axiom, sorry.
-/
import Derived.Test.YtjbpohkcmgelkaaGreatDoorRows
import GoSem.ClaimSeven
namespace Go.Proofs.YtjbpohkcmgelkaaGreatDoor
namespace Rows

/-- THE TIED CARD OF 'laws.FnLazy'. -/
def fnLazyCard : Claim7 := { stood := { row := fnLazyRow, standIns := [], harness := (true, "d34f1364007223e6e1f48739cc1d49ae371e66ed1a96645ad1022ee627a997c0"), looks := true }, kinds := [], alts := [], laidByText := true, laidKinds := [.data, .data, .data, .data, .sentinel, .sentinel, .data, .pinned], laidTests := true, laidLooks := .later }
def FnLazyCardSaid : Prop := Claim7.holds Tryz.pinned (.plain (OpenSpec.ofChange fnLazySpec)) fnLazyCard

/-- THE TIED CARD OF 'laws.FnNewlines'. -/
def fnNewlinesCard : Claim7 := { stood := { row := fnNewlinesRow, standIns := [], harness := (true, "d34f1364007223e6e1f48739cc1d49ae371e66ed1a96645ad1022ee627a997c0"), looks := true }, kinds := [], alts := [], laidByText := true, laidKinds := [.data, .data, .data, .data, .sentinel, .sentinel, .data, .pinned], laidTests := true, laidLooks := .later }
def FnNewlinesCardSaid : Prop := Claim7.holds Tryz.pinned (.plain (OpenSpec.ofChange fnNewlinesSpec)) fnNewlinesCard

/-- THE TIED CARD OF 'laws.FnQuoted'. -/
def fnQuotedCard : Claim7 := { stood := { row := fnQuotedRow, standIns := [], harness := (true, "d34f1364007223e6e1f48739cc1d49ae371e66ed1a96645ad1022ee627a997c0"), looks := true }, kinds := [], alts := [], laidByText := true, laidKinds := [.data, .data, .data, .data, .sentinel, .sentinel, .data, .pinned], laidTests := true, laidLooks := .later }
def FnQuotedCardSaid : Prop := Claim7.holds Tryz.pinned (.plain (OpenSpec.ofChange fnQuotedSpec)) fnQuotedCard

/-- THE TIED CARD OF 'laws.FnOptionInlines'. -/
def fnOptionInlinesCard : Claim7 := { stood := { row := fnOptionInlinesRow, standIns := [], harness := (true, "d34f1364007223e6e1f48739cc1d49ae371e66ed1a96645ad1022ee627a997c0"), looks := true }, kinds := [], alts := [], laidByText := true, laidKinds := [.data, .data, .data, .data, .sentinel, .sentinel, .data, .pinned], laidTests := true, laidLooks := .later }
def FnOptionInlinesCardSaid : Prop := Claim7.holds Tryz.pinned (.plain (OpenSpec.ofChange fnOptionInlinesSpec)) fnOptionInlinesCard

/-- THE SECOND FORM's CARD OF 'laws.FnLazy'. -/
def fnLazyUptoCard : Claim7 := { stood := { row := fnLazyUptoRow, standIns := [], harness := (true, "d34f1364007223e6e1f48739cc1d49ae371e66ed1a96645ad1022ee627a997c0"), looks := true }, kinds := [], alts := [], laidByText := true, laidKinds := [.data, .data, .data, .data, .sentinel, .sentinel, .data, .pinned], laidTests := true, laidLooks := .later }
def FnLazyUptoCardSaid : Prop := Claim7.holds Tryz.pinned (.plain (OpenSpec.upto fnLazySpec)) fnLazyUptoCard

/-- THE SECOND FORM's CARD OF 'laws.FnNewlines'. -/
def fnNewlinesUptoCard : Claim7 := { stood := { row := fnNewlinesUptoRow, standIns := [], harness := (true, "d34f1364007223e6e1f48739cc1d49ae371e66ed1a96645ad1022ee627a997c0"), looks := true }, kinds := [], alts := [], laidByText := true, laidKinds := [.data, .data, .data, .data, .sentinel, .sentinel, .data, .pinned], laidTests := true, laidLooks := .later }
def FnNewlinesUptoCardSaid : Prop := Claim7.holds Tryz.pinned (.plain (OpenSpec.upto fnNewlinesSpec)) fnNewlinesUptoCard

/-- THE SECOND FORM's CARD OF 'laws.FnQuoted'. -/
def fnQuotedUptoCard : Claim7 := { stood := { row := fnQuotedUptoRow, standIns := [], harness := (true, "d34f1364007223e6e1f48739cc1d49ae371e66ed1a96645ad1022ee627a997c0"), looks := true }, kinds := [], alts := [], laidByText := true, laidKinds := [.data, .data, .data, .data, .sentinel, .sentinel, .data, .pinned], laidTests := true, laidLooks := .later }
def FnQuotedUptoCardSaid : Prop := Claim7.holds Tryz.pinned (.plain (OpenSpec.upto fnQuotedSpec)) fnQuotedUptoCard

/-- THE SECOND FORM's CARD OF 'laws.FnOptionInlines'. -/
def fnOptionInlinesUptoCard : Claim7 := { stood := { row := fnOptionInlinesUptoRow, standIns := [], harness := (true, "d34f1364007223e6e1f48739cc1d49ae371e66ed1a96645ad1022ee627a997c0"), looks := true }, kinds := [], alts := [], laidByText := true, laidKinds := [.data, .data, .data, .data, .sentinel, .sentinel, .data, .pinned], laidTests := true, laidLooks := .later }
def FnOptionInlinesUptoCardSaid : Prop := Claim7.holds Tryz.pinned (.plain (OpenSpec.upto fnOptionInlinesSpec)) fnOptionInlinesUptoCard
end Rows
end Go.Proofs.YtjbpohkcmgelkaaGreatDoor
