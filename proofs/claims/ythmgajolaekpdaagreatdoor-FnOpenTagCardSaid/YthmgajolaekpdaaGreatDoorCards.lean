/-
  DERIVED. GIVEN WITH THE SEED: THE CARDS: each row of YthmgajolaekpdaaGreatDoorRows.lean that lists a variable, with what it lists TIED to the program's text (the seventh form; the later family's looks); each row that meets fmt, with fmt's text TOLD by the authors' own Lean function (tested against real Go, not proved from fmt's source: count such statements apart). THE CARD IS WHAT COUNTS. Prove the row's statement (the work); the ties are given (YthmgajolaekpdaaGreatDoorTie.lean); close each card by the builder's one call (the guide's Derived/Test/ToyasCard.lean, 'card_holds'). Laid BY PROGRAM, IN A SANDBOX (cutbox-door.mjs). By AI agents, Wed Nov 11 2026. No macro, syntax, notation, axiom, sorry.
-/
import Derived.Test.YthmgajolaekpdaaGreatDoorRows
import GoSem.ClaimSeven
namespace Go.Proofs.YthmgajolaekpdaaGreatDoor
namespace Rows

/-- THE TIED CARD OF 'laws.FnAutolink'. -/
def fnAutolinkCard : Claim7 := { stood := { row := fnAutolinkRow, standIns := [], harness := (true, "5e1e4a211c55132d789df510e77d229b650cb4f4020a75678852c747cdd06276"), looks := true }, kinds := [], alts := [], laidByText := true, laidKinds := [.data, .data, .data, .data, .sentinel, .sentinel, .data, .pinned], laidTests := true, laidLooks := .later }
def FnAutolinkCardSaid : Prop := Claim7.holds Tryz.pinned (.plain (OpenSpec.ofChange fnAutolinkSpec)) fnAutolinkCard

/-- THE TIED CARD OF 'laws.FnImages'. -/
def fnImagesCard : Claim7 := { stood := { row := fnImagesRow, standIns := [], harness := (true, "5e1e4a211c55132d789df510e77d229b650cb4f4020a75678852c747cdd06276"), looks := true }, kinds := [], alts := [], laidByText := true, laidKinds := [.data, .data, .data, .data, .sentinel, .sentinel, .data, .pinned], laidTests := true, laidLooks := .later }
def FnImagesCardSaid : Prop := Claim7.holds Tryz.pinned (.plain (OpenSpec.ofChange fnImagesSpec)) fnImagesCard

/-- THE TIED CARD OF 'laws.FnLazy'. -/
def fnLazyCard : Claim7 := { stood := { row := fnLazyRow, standIns := [], harness := (true, "5e1e4a211c55132d789df510e77d229b650cb4f4020a75678852c747cdd06276"), looks := true }, kinds := [], alts := [], laidByText := true, laidKinds := [.data, .data, .data, .data, .sentinel, .sentinel, .data, .pinned], laidTests := true, laidLooks := .later }
def FnLazyCardSaid : Prop := Claim7.holds Tryz.pinned (.plain (OpenSpec.ofChange fnLazySpec)) fnLazyCard

/-- THE TIED CARD OF 'laws.FnOpenTag'. -/
def fnOpenTagCard : Claim7 := { stood := { row := fnOpenTagRow, standIns := [], harness := (true, "5e1e4a211c55132d789df510e77d229b650cb4f4020a75678852c747cdd06276"), looks := true }, kinds := [], alts := [], laidByText := true, laidKinds := [.data, .data, .data, .data, .sentinel, .sentinel, .data, .pinned], laidTests := true, laidLooks := .later }
def FnOpenTagCardSaid : Prop := Claim7.holds Tryz.pinned (.plain (OpenSpec.ofChange fnOpenTagSpec)) fnOpenTagCard

/-- THE TIED CARD OF 'laws.FnOutdent'. -/
def fnOutdentCard : Claim7 := { stood := { row := fnOutdentRow, standIns := [], harness := (true, "5e1e4a211c55132d789df510e77d229b650cb4f4020a75678852c747cdd06276"), looks := true }, kinds := [], alts := [], laidByText := true, laidKinds := [.data, .data, .data, .data, .sentinel, .sentinel, .data, .pinned], laidTests := true, laidLooks := .later }
def FnOutdentCardSaid : Prop := Claim7.holds Tryz.pinned (.plain (OpenSpec.ofChange fnOutdentSpec)) fnOutdentCard

/-- THE SECOND FORM's CARD OF 'laws.FnAutolink'. -/
def fnAutolinkUptoCard : Claim7 := { stood := { row := fnAutolinkUptoRow, standIns := [], harness := (true, "5e1e4a211c55132d789df510e77d229b650cb4f4020a75678852c747cdd06276"), looks := true }, kinds := [], alts := [], laidByText := true, laidKinds := [.data, .data, .data, .data, .sentinel, .sentinel, .data, .pinned], laidTests := true, laidLooks := .later }
def FnAutolinkUptoCardSaid : Prop := Claim7.holds Tryz.pinned (.plain (OpenSpec.upto fnAutolinkSpec)) fnAutolinkUptoCard

/-- THE SECOND FORM's CARD OF 'laws.FnImages'. -/
def fnImagesUptoCard : Claim7 := { stood := { row := fnImagesUptoRow, standIns := [], harness := (true, "5e1e4a211c55132d789df510e77d229b650cb4f4020a75678852c747cdd06276"), looks := true }, kinds := [], alts := [], laidByText := true, laidKinds := [.data, .data, .data, .data, .sentinel, .sentinel, .data, .pinned], laidTests := true, laidLooks := .later }
def FnImagesUptoCardSaid : Prop := Claim7.holds Tryz.pinned (.plain (OpenSpec.upto fnImagesSpec)) fnImagesUptoCard

/-- THE SECOND FORM's CARD OF 'laws.FnLazy'. -/
def fnLazyUptoCard : Claim7 := { stood := { row := fnLazyUptoRow, standIns := [], harness := (true, "5e1e4a211c55132d789df510e77d229b650cb4f4020a75678852c747cdd06276"), looks := true }, kinds := [], alts := [], laidByText := true, laidKinds := [.data, .data, .data, .data, .sentinel, .sentinel, .data, .pinned], laidTests := true, laidLooks := .later }
def FnLazyUptoCardSaid : Prop := Claim7.holds Tryz.pinned (.plain (OpenSpec.upto fnLazySpec)) fnLazyUptoCard

/-- THE SECOND FORM's CARD OF 'laws.FnOpenTag'. -/
def fnOpenTagUptoCard : Claim7 := { stood := { row := fnOpenTagUptoRow, standIns := [], harness := (true, "5e1e4a211c55132d789df510e77d229b650cb4f4020a75678852c747cdd06276"), looks := true }, kinds := [], alts := [], laidByText := true, laidKinds := [.data, .data, .data, .data, .sentinel, .sentinel, .data, .pinned], laidTests := true, laidLooks := .later }
def FnOpenTagUptoCardSaid : Prop := Claim7.holds Tryz.pinned (.plain (OpenSpec.upto fnOpenTagSpec)) fnOpenTagUptoCard

/-- THE SECOND FORM's CARD OF 'laws.FnOutdent'. -/
def fnOutdentUptoCard : Claim7 := { stood := { row := fnOutdentUptoRow, standIns := [], harness := (true, "5e1e4a211c55132d789df510e77d229b650cb4f4020a75678852c747cdd06276"), looks := true }, kinds := [], alts := [], laidByText := true, laidKinds := [.data, .data, .data, .data, .sentinel, .sentinel, .data, .pinned], laidTests := true, laidLooks := .later }
def FnOutdentUptoCardSaid : Prop := Claim7.holds Tryz.pinned (.plain (OpenSpec.upto fnOutdentSpec)) fnOutdentUptoCard
end Rows
end Go.Proofs.YthmgajolaekpdaaGreatDoor
