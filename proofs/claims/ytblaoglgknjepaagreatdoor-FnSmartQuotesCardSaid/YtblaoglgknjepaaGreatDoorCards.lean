/-
  DERIVED. GIVEN WITH THE SEED: THE CARDS: each row of YtblaoglgknjepaaGreatDoorRows.lean that lists a variable, with what it lists TIED to the program's text (the seventh form; the later family's looks); each row that meets fmt, with fmt's text TOLD by the authors' own Lean function (tested against real Go, not proved from fmt's source: count such statements apart). THE CARD IS WHAT COUNTS. Prove the row's statement (the work); the ties are given (YtblaoglgknjepaaGreatDoorTie.lean); close each card by the builder's one call (the guide's Derived/Test/ToyasCard.lean, 'card_holds'). Laid BY PROGRAM, IN A SANDBOX (cutbox-door.mjs). By AI agents, Wed Nov 11 2026. No macro, syntax, notation, axiom, sorry.
-/
import Derived.Test.YtblaoglgknjepaaGreatDoorRows
import GoSem.ClaimSeven
namespace Go.Proofs.YtblaoglgknjepaaGreatDoor
namespace Rows

/-- THE TIED CARD OF 'laws.FnFence'. -/
def fnFenceCard : Claim7 := { stood := { row := fnFenceRow, standIns := [], harness := (true, "fb8abf31f8361a44a60d5a158c0a3f718f624d9eeacc8cd75417670786faaa59"), looks := true }, kinds := [], alts := [], laidByText := true, laidKinds := [.data, .data, .data, .data, .sentinel, .sentinel, .data, .pinned], laidTests := true, laidLooks := .later }
def FnFenceCardSaid : Prop := Claim7.holds Tryz.pinned (.plain (OpenSpec.ofChange fnFenceSpec)) fnFenceCard

/-- THE TIED CARD OF 'laws.FnSmartQuotes'. -/
def fnSmartQuotesCard : Claim7 := { stood := { row := fnSmartQuotesRow, standIns := [], harness := (true, "fb8abf31f8361a44a60d5a158c0a3f718f624d9eeacc8cd75417670786faaa59"), looks := true }, kinds := [], alts := [], laidByText := true, laidKinds := [.data, .data, .data, .data, .sentinel, .sentinel, .data, .pinned], laidTests := true, laidLooks := .later }
def FnSmartQuotesCardSaid : Prop := Claim7.holds Tryz.pinned (.plain (OpenSpec.ofChange fnSmartQuotesSpec)) fnSmartQuotesCard

/-- THE TIED CARD OF 'laws.FnStruck'. -/
def fnStruckCard : Claim7 := { stood := { row := fnStruckRow, standIns := [], harness := (true, "fb8abf31f8361a44a60d5a158c0a3f718f624d9eeacc8cd75417670786faaa59"), looks := true }, kinds := [], alts := [], laidByText := true, laidKinds := [.data, .data, .data, .data, .sentinel, .sentinel, .data, .pinned], laidTests := true, laidLooks := .later }
def FnStruckCardSaid : Prop := Claim7.holds Tryz.pinned (.plain (OpenSpec.ofChange fnStruckSpec)) fnStruckCard

/-- THE TIED CARD OF 'laws.FnUnclosed'. -/
def fnUnclosedCard : Claim7 := { stood := { row := fnUnclosedRow, standIns := [], harness := (true, "fb8abf31f8361a44a60d5a158c0a3f718f624d9eeacc8cd75417670786faaa59"), looks := true }, kinds := [], alts := [], laidByText := true, laidKinds := [.data, .data, .data, .data, .sentinel, .sentinel, .data, .pinned], laidTests := true, laidLooks := .later }
def FnUnclosedCardSaid : Prop := Claim7.holds Tryz.pinned (.plain (OpenSpec.ofChange fnUnclosedSpec)) fnUnclosedCard

/-- THE SECOND FORM's CARD OF 'laws.FnFence'. -/
def fnFenceUptoCard : Claim7 := { stood := { row := fnFenceUptoRow, standIns := [], harness := (true, "fb8abf31f8361a44a60d5a158c0a3f718f624d9eeacc8cd75417670786faaa59"), looks := true }, kinds := [], alts := [], laidByText := true, laidKinds := [.data, .data, .data, .data, .sentinel, .sentinel, .data, .pinned], laidTests := true, laidLooks := .later }
def FnFenceUptoCardSaid : Prop := Claim7.holds Tryz.pinned (.plain (OpenSpec.upto fnFenceSpec)) fnFenceUptoCard

/-- THE SECOND FORM's CARD OF 'laws.FnSmartQuotes'. -/
def fnSmartQuotesUptoCard : Claim7 := { stood := { row := fnSmartQuotesUptoRow, standIns := [], harness := (true, "fb8abf31f8361a44a60d5a158c0a3f718f624d9eeacc8cd75417670786faaa59"), looks := true }, kinds := [], alts := [], laidByText := true, laidKinds := [.data, .data, .data, .data, .sentinel, .sentinel, .data, .pinned], laidTests := true, laidLooks := .later }
def FnSmartQuotesUptoCardSaid : Prop := Claim7.holds Tryz.pinned (.plain (OpenSpec.upto fnSmartQuotesSpec)) fnSmartQuotesUptoCard

/-- THE SECOND FORM's CARD OF 'laws.FnStruck'. -/
def fnStruckUptoCard : Claim7 := { stood := { row := fnStruckUptoRow, standIns := [], harness := (true, "fb8abf31f8361a44a60d5a158c0a3f718f624d9eeacc8cd75417670786faaa59"), looks := true }, kinds := [], alts := [], laidByText := true, laidKinds := [.data, .data, .data, .data, .sentinel, .sentinel, .data, .pinned], laidTests := true, laidLooks := .later }
def FnStruckUptoCardSaid : Prop := Claim7.holds Tryz.pinned (.plain (OpenSpec.upto fnStruckSpec)) fnStruckUptoCard

/-- THE SECOND FORM's CARD OF 'laws.FnUnclosed'. -/
def fnUnclosedUptoCard : Claim7 := { stood := { row := fnUnclosedUptoRow, standIns := [], harness := (true, "fb8abf31f8361a44a60d5a158c0a3f718f624d9eeacc8cd75417670786faaa59"), looks := true }, kinds := [], alts := [], laidByText := true, laidKinds := [.data, .data, .data, .data, .sentinel, .sentinel, .data, .pinned], laidTests := true, laidLooks := .later }
def FnUnclosedUptoCardSaid : Prop := Claim7.holds Tryz.pinned (.plain (OpenSpec.upto fnUnclosedSpec)) fnUnclosedUptoCard
end Rows
end Go.Proofs.YtblaoglgknjepaaGreatDoor
