/-
  DERIVED. GIVEN WITH THE SEED: THE CARDS: each row of YtfnflaloojpckaaGreatDoorRows.lean that lists a variable, with what it lists TIED to the program's text (the seventh form; the later family's looks); each row that meets fmt, with fmt's text TOLD by the authors' own Lean function (tested against real Go, not proved from fmt's source: count such statements apart). THE CARD IS WHAT COUNTS. Prove the row's statement (the work); the ties are given (YtfnflaloojpckaaGreatDoorTie.lean); close each card by the builder's one call (the guide's Derived/Test/ToyasCard.lean, 'card_holds'). Laid BY PROGRAM, IN A SANDBOX (cutbox-door.mjs). By AI agents, Wed Nov 11 2026. No macro, syntax, notation, axiom, sorry.
-/
import Derived.Test.YtfnflaloojpckaaGreatDoorRows
import GoSem.ClaimSeven
namespace Go.Proofs.YtfnflaloojpckaaGreatDoor
namespace Rows

/-- THE TIED CARD OF 'laws.FnImages'. -/
def fnImagesCard : Claim7 := { stood := { row := fnImagesRow, standIns := [], harness := (true, "961c339710f164da63f5e98bad15b1dcbf9cc48901a3bb22d0dba7b6ee3d42e1"), looks := true }, kinds := [], alts := [], laidByText := true, laidKinds := [.data, .data, .data, .data, .sentinel, .sentinel, .data, .pinned], laidTests := true, laidLooks := .later }
def FnImagesCardSaid : Prop := Claim7.holds Tryz.pinned (.plain (OpenSpec.ofChange fnImagesSpec)) fnImagesCard

/-- THE TIED CARD OF 'laws.FnLazy'. -/
def fnLazyCard : Claim7 := { stood := { row := fnLazyRow, standIns := [], harness := (true, "961c339710f164da63f5e98bad15b1dcbf9cc48901a3bb22d0dba7b6ee3d42e1"), looks := true }, kinds := [], alts := [], laidByText := true, laidKinds := [.data, .data, .data, .data, .sentinel, .sentinel, .data, .pinned], laidTests := true, laidLooks := .later }
def FnLazyCardSaid : Prop := Claim7.holds Tryz.pinned (.plain (OpenSpec.ofChange fnLazySpec)) fnLazyCard

/-- THE TIED CARD OF 'laws.FnOptionInlines'. -/
def fnOptionInlinesCard : Claim7 := { stood := { row := fnOptionInlinesRow, standIns := [], harness := (true, "961c339710f164da63f5e98bad15b1dcbf9cc48901a3bb22d0dba7b6ee3d42e1"), looks := true }, kinds := [], alts := [], laidByText := true, laidKinds := [.data, .data, .data, .data, .sentinel, .sentinel, .data, .pinned], laidTests := true, laidLooks := .later }
def FnOptionInlinesCardSaid : Prop := Claim7.holds Tryz.pinned (.plain (OpenSpec.ofChange fnOptionInlinesSpec)) fnOptionInlinesCard

/-- THE SECOND FORM's CARD OF 'laws.FnImages'. -/
def fnImagesUptoCard : Claim7 := { stood := { row := fnImagesUptoRow, standIns := [], harness := (true, "961c339710f164da63f5e98bad15b1dcbf9cc48901a3bb22d0dba7b6ee3d42e1"), looks := true }, kinds := [], alts := [], laidByText := true, laidKinds := [.data, .data, .data, .data, .sentinel, .sentinel, .data, .pinned], laidTests := true, laidLooks := .later }
def FnImagesUptoCardSaid : Prop := Claim7.holds Tryz.pinned (.plain (OpenSpec.upto fnImagesSpec)) fnImagesUptoCard

/-- THE SECOND FORM's CARD OF 'laws.FnLazy'. -/
def fnLazyUptoCard : Claim7 := { stood := { row := fnLazyUptoRow, standIns := [], harness := (true, "961c339710f164da63f5e98bad15b1dcbf9cc48901a3bb22d0dba7b6ee3d42e1"), looks := true }, kinds := [], alts := [], laidByText := true, laidKinds := [.data, .data, .data, .data, .sentinel, .sentinel, .data, .pinned], laidTests := true, laidLooks := .later }
def FnLazyUptoCardSaid : Prop := Claim7.holds Tryz.pinned (.plain (OpenSpec.upto fnLazySpec)) fnLazyUptoCard

/-- THE SECOND FORM's CARD OF 'laws.FnOptionInlines'. -/
def fnOptionInlinesUptoCard : Claim7 := { stood := { row := fnOptionInlinesUptoRow, standIns := [], harness := (true, "961c339710f164da63f5e98bad15b1dcbf9cc48901a3bb22d0dba7b6ee3d42e1"), looks := true }, kinds := [], alts := [], laidByText := true, laidKinds := [.data, .data, .data, .data, .sentinel, .sentinel, .data, .pinned], laidTests := true, laidLooks := .later }
def FnOptionInlinesUptoCardSaid : Prop := Claim7.holds Tryz.pinned (.plain (OpenSpec.upto fnOptionInlinesSpec)) fnOptionInlinesUptoCard
end Rows
end Go.Proofs.YtfnflaloojpckaaGreatDoor
