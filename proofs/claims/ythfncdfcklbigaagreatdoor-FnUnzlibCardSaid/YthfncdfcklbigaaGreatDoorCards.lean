/-
  DERIVED. GIVEN WITH THE SEED: THE CARDS: each row of YthfncdfcklbigaaGreatDoorRows.lean that lists a variable, with what it lists TIED to the program's text (the seventh form; the later family's looks); each row that meets fmt, with fmt's text TOLD by the authors' own Lean function (tested against real Go, not proved from fmt's source: count such statements apart). THE CARD IS WHAT COUNTS. Prove the row's statement (the work); the ties are given (YthfncdfcklbigaaGreatDoorTie.lean); close each card by the builder's one call (the guide's Derived/Test/ToyasCard.lean, 'card_holds'). Laid BY PROGRAM, IN A SANDBOX (cutbox-door.mjs). By AI agents, Wed Nov 11 2026. No macro, syntax, notation, axiom, sorry.
-/
import Derived.Test.YthfncdfcklbigaaGreatDoorRows
import GoSem.ClaimSeven
namespace Go.Proofs.YthfncdfcklbigaaGreatDoor
namespace Rows

/-- THE TIED CARD OF 'laws.FnUnzlib'. -/
def fnUnzlibCard : Claim7 := { stood := { row := fnUnzlibRow, standIns := [], harness := (true, "703b7950a9c3be665f364049809ec364041c91def0de91c7d796d347c98a91c5"), looks := true }, kinds := [], alts := [], laidByText := true, laidKinds := [.sentinel, .sentinel, .sentinel, .data, .sentinel, .sentinel, .sentinel], laidTests := true, laidLooks := .later }
def FnUnzlibCardSaid : Prop := Claim7.holds Tryz.pinned (.plain (OpenSpec.ofChange fnUnzlibSpec)) fnUnzlibCard

/-- THE TIED CARD OF 'laws.FnReaderAgain'. -/
def fnReaderAgainCard : Claim7 := { stood := { row := fnReaderAgainRow, standIns := [], harness := (true, "703b7950a9c3be665f364049809ec364041c91def0de91c7d796d347c98a91c5"), looks := true }, kinds := [], alts := [], laidByText := true, laidKinds := [.sentinel, .sentinel, .sentinel, .data, .sentinel, .sentinel, .sentinel], laidTests := true, laidLooks := .later }
def FnReaderAgainCardSaid : Prop := Claim7.holds Tryz.pinned (.plain (OpenSpec.ofChange fnReaderAgainSpec)) fnReaderAgainCard

/-- THE TIED CARD OF 'laws.FnChecksum'. -/
def fnChecksumCard : Claim7 := { stood := { row := fnChecksumRow, standIns := [], harness := (true, "703b7950a9c3be665f364049809ec364041c91def0de91c7d796d347c98a91c5"), looks := true }, kinds := [], alts := [], laidByText := true, laidKinds := [.sentinel, .sentinel, .sentinel, .data, .sentinel, .sentinel, .sentinel], laidTests := true, laidLooks := .later }
def FnChecksumCardSaid : Prop := Claim7.holds Tryz.pinned (.plain (OpenSpec.ofChange fnChecksumSpec)) fnChecksumCard

/-- THE TIED CARD OF 'laws.FnHeader'. -/
def fnHeaderCard : Claim7 := { stood := { row := fnHeaderRow, standIns := [], harness := (true, "703b7950a9c3be665f364049809ec364041c91def0de91c7d796d347c98a91c5"), looks := true }, kinds := [], alts := [], laidByText := true, laidKinds := [.sentinel, .sentinel, .sentinel, .data, .sentinel, .sentinel, .sentinel], laidTests := true, laidLooks := .later }
def FnHeaderCardSaid : Prop := Claim7.holds Tryz.pinned (.plain (OpenSpec.ofChange fnHeaderSpec)) fnHeaderCard

/-- THE TIED CARD OF 'laws.FnIgnored'. -/
def fnIgnoredCard : Claim7 := { stood := { row := fnIgnoredRow, standIns := [], harness := (true, "703b7950a9c3be665f364049809ec364041c91def0de91c7d796d347c98a91c5"), looks := true }, kinds := [], alts := [], laidByText := true, laidKinds := [.sentinel, .sentinel, .sentinel, .data, .sentinel, .sentinel, .sentinel], laidTests := true, laidLooks := .later }
def FnIgnoredCardSaid : Prop := Claim7.holds Tryz.pinned (.plain (OpenSpec.ofChange fnIgnoredSpec)) fnIgnoredCard

/-- THE TIED CARD OF 'laws.FnOtherDictionary'. -/
def fnOtherDictionaryCard : Claim7 := { stood := { row := fnOtherDictionaryRow, standIns := [], harness := (true, "703b7950a9c3be665f364049809ec364041c91def0de91c7d796d347c98a91c5"), looks := true }, kinds := [], alts := [], laidByText := true, laidKinds := [.sentinel, .sentinel, .sentinel, .data, .sentinel, .sentinel, .sentinel], laidTests := true, laidLooks := .later }
def FnOtherDictionaryCardSaid : Prop := Claim7.holds Tryz.pinned (.plain (OpenSpec.ofChange fnOtherDictionarySpec)) fnOtherDictionaryCard

/-- THE TIED CARD OF 'laws.FnRead'. -/
def fnReadCard : Claim7 := { stood := { row := fnReadRow, standIns := [], harness := (true, "703b7950a9c3be665f364049809ec364041c91def0de91c7d796d347c98a91c5"), looks := true }, kinds := [], alts := [], laidByText := true, laidKinds := [.sentinel, .sentinel, .sentinel, .data, .sentinel, .sentinel, .sentinel], laidTests := true, laidLooks := .later }
def FnReadCardSaid : Prop := Claim7.holds Tryz.pinned (.plain (OpenSpec.ofChange fnReadSpec)) fnReadCard

/-- THE TIED CARD OF 'laws.FnRest'. -/
def fnRestCard : Claim7 := { stood := { row := fnRestRow, standIns := [], harness := (true, "703b7950a9c3be665f364049809ec364041c91def0de91c7d796d347c98a91c5"), looks := true }, kinds := [], alts := [], laidByText := true, laidKinds := [.sentinel, .sentinel, .sentinel, .data, .sentinel, .sentinel, .sentinel], laidTests := true, laidLooks := .later }
def FnRestCardSaid : Prop := Claim7.holds Tryz.pinned (.plain (OpenSpec.ofChange fnRestSpec)) fnRestCard

/-- THE TIED CARD OF 'laws.FnSizes'. -/
def fnSizesCard : Claim7 := { stood := { row := fnSizesRow, standIns := [], harness := (true, "703b7950a9c3be665f364049809ec364041c91def0de91c7d796d347c98a91c5"), looks := true }, kinds := [], alts := [], laidByText := true, laidKinds := [.sentinel, .sentinel, .sentinel, .data, .sentinel, .sentinel, .sentinel], laidTests := true, laidLooks := .later }
def FnSizesCardSaid : Prop := Claim7.holds Tryz.pinned (.plain (OpenSpec.ofChange fnSizesSpec)) fnSizesCard

/-- THE TIED CARD OF 'laws.FnStreamCut'. -/
def fnStreamCutCard : Claim7 := { stood := { row := fnStreamCutRow, standIns := [], harness := (true, "703b7950a9c3be665f364049809ec364041c91def0de91c7d796d347c98a91c5"), looks := true }, kinds := [], alts := [], laidByText := true, laidKinds := [.sentinel, .sentinel, .sentinel, .data, .sentinel, .sentinel, .sentinel], laidTests := true, laidLooks := .later }
def FnStreamCutCardSaid : Prop := Claim7.holds Tryz.pinned (.plain (OpenSpec.ofChange fnStreamCutSpec)) fnStreamCutCard

/-- THE SECOND FORM's CARD OF 'laws.FnUnzlib'. -/
def fnUnzlibUptoCard : Claim7 := { stood := { row := fnUnzlibUptoRow, standIns := [], harness := (true, "703b7950a9c3be665f364049809ec364041c91def0de91c7d796d347c98a91c5"), looks := true }, kinds := [], alts := [], laidByText := true, laidKinds := [.sentinel, .sentinel, .sentinel, .data, .sentinel, .sentinel, .sentinel], laidTests := true, laidLooks := .later }
def FnUnzlibUptoCardSaid : Prop := Claim7.holds Tryz.pinned (.plain (OpenSpec.upto fnUnzlibSpec)) fnUnzlibUptoCard

/-- THE SECOND FORM's CARD OF 'laws.FnReaderAgain'. -/
def fnReaderAgainUptoCard : Claim7 := { stood := { row := fnReaderAgainUptoRow, standIns := [], harness := (true, "703b7950a9c3be665f364049809ec364041c91def0de91c7d796d347c98a91c5"), looks := true }, kinds := [], alts := [], laidByText := true, laidKinds := [.sentinel, .sentinel, .sentinel, .data, .sentinel, .sentinel, .sentinel], laidTests := true, laidLooks := .later }
def FnReaderAgainUptoCardSaid : Prop := Claim7.holds Tryz.pinned (.plain (OpenSpec.upto fnReaderAgainSpec)) fnReaderAgainUptoCard

/-- THE SECOND FORM's CARD OF 'laws.FnChecksum'. -/
def fnChecksumUptoCard : Claim7 := { stood := { row := fnChecksumUptoRow, standIns := [], harness := (true, "703b7950a9c3be665f364049809ec364041c91def0de91c7d796d347c98a91c5"), looks := true }, kinds := [], alts := [], laidByText := true, laidKinds := [.sentinel, .sentinel, .sentinel, .data, .sentinel, .sentinel, .sentinel], laidTests := true, laidLooks := .later }
def FnChecksumUptoCardSaid : Prop := Claim7.holds Tryz.pinned (.plain (OpenSpec.upto fnChecksumSpec)) fnChecksumUptoCard

/-- THE SECOND FORM's CARD OF 'laws.FnHeader'. -/
def fnHeaderUptoCard : Claim7 := { stood := { row := fnHeaderUptoRow, standIns := [], harness := (true, "703b7950a9c3be665f364049809ec364041c91def0de91c7d796d347c98a91c5"), looks := true }, kinds := [], alts := [], laidByText := true, laidKinds := [.sentinel, .sentinel, .sentinel, .data, .sentinel, .sentinel, .sentinel], laidTests := true, laidLooks := .later }
def FnHeaderUptoCardSaid : Prop := Claim7.holds Tryz.pinned (.plain (OpenSpec.upto fnHeaderSpec)) fnHeaderUptoCard

/-- THE SECOND FORM's CARD OF 'laws.FnIgnored'. -/
def fnIgnoredUptoCard : Claim7 := { stood := { row := fnIgnoredUptoRow, standIns := [], harness := (true, "703b7950a9c3be665f364049809ec364041c91def0de91c7d796d347c98a91c5"), looks := true }, kinds := [], alts := [], laidByText := true, laidKinds := [.sentinel, .sentinel, .sentinel, .data, .sentinel, .sentinel, .sentinel], laidTests := true, laidLooks := .later }
def FnIgnoredUptoCardSaid : Prop := Claim7.holds Tryz.pinned (.plain (OpenSpec.upto fnIgnoredSpec)) fnIgnoredUptoCard

/-- THE SECOND FORM's CARD OF 'laws.FnOtherDictionary'. -/
def fnOtherDictionaryUptoCard : Claim7 := { stood := { row := fnOtherDictionaryUptoRow, standIns := [], harness := (true, "703b7950a9c3be665f364049809ec364041c91def0de91c7d796d347c98a91c5"), looks := true }, kinds := [], alts := [], laidByText := true, laidKinds := [.sentinel, .sentinel, .sentinel, .data, .sentinel, .sentinel, .sentinel], laidTests := true, laidLooks := .later }
def FnOtherDictionaryUptoCardSaid : Prop := Claim7.holds Tryz.pinned (.plain (OpenSpec.upto fnOtherDictionarySpec)) fnOtherDictionaryUptoCard

/-- THE SECOND FORM's CARD OF 'laws.FnRead'. -/
def fnReadUptoCard : Claim7 := { stood := { row := fnReadUptoRow, standIns := [], harness := (true, "703b7950a9c3be665f364049809ec364041c91def0de91c7d796d347c98a91c5"), looks := true }, kinds := [], alts := [], laidByText := true, laidKinds := [.sentinel, .sentinel, .sentinel, .data, .sentinel, .sentinel, .sentinel], laidTests := true, laidLooks := .later }
def FnReadUptoCardSaid : Prop := Claim7.holds Tryz.pinned (.plain (OpenSpec.upto fnReadSpec)) fnReadUptoCard

/-- THE SECOND FORM's CARD OF 'laws.FnRest'. -/
def fnRestUptoCard : Claim7 := { stood := { row := fnRestUptoRow, standIns := [], harness := (true, "703b7950a9c3be665f364049809ec364041c91def0de91c7d796d347c98a91c5"), looks := true }, kinds := [], alts := [], laidByText := true, laidKinds := [.sentinel, .sentinel, .sentinel, .data, .sentinel, .sentinel, .sentinel], laidTests := true, laidLooks := .later }
def FnRestUptoCardSaid : Prop := Claim7.holds Tryz.pinned (.plain (OpenSpec.upto fnRestSpec)) fnRestUptoCard

/-- THE SECOND FORM's CARD OF 'laws.FnSizes'. -/
def fnSizesUptoCard : Claim7 := { stood := { row := fnSizesUptoRow, standIns := [], harness := (true, "703b7950a9c3be665f364049809ec364041c91def0de91c7d796d347c98a91c5"), looks := true }, kinds := [], alts := [], laidByText := true, laidKinds := [.sentinel, .sentinel, .sentinel, .data, .sentinel, .sentinel, .sentinel], laidTests := true, laidLooks := .later }
def FnSizesUptoCardSaid : Prop := Claim7.holds Tryz.pinned (.plain (OpenSpec.upto fnSizesSpec)) fnSizesUptoCard

/-- THE SECOND FORM's CARD OF 'laws.FnStreamCut'. -/
def fnStreamCutUptoCard : Claim7 := { stood := { row := fnStreamCutUptoRow, standIns := [], harness := (true, "703b7950a9c3be665f364049809ec364041c91def0de91c7d796d347c98a91c5"), looks := true }, kinds := [], alts := [], laidByText := true, laidKinds := [.sentinel, .sentinel, .sentinel, .data, .sentinel, .sentinel, .sentinel], laidTests := true, laidLooks := .later }
def FnStreamCutUptoCardSaid : Prop := Claim7.holds Tryz.pinned (.plain (OpenSpec.upto fnStreamCutSpec)) fnStreamCutUptoCard
end Rows
end Go.Proofs.YthfncdfcklbigaaGreatDoor
