/-
  DERIVED. GIVEN WITH THE SEED: THE CARDS: each row of YthfncdfcklbigaaDoorRows.lean that lists a variable, with what it lists TIED to the program's text (the seventh form; the later family's looks); each row that meets fmt, with fmt's text TOLD by the authors' own Lean function (tested against real Go, not proved from fmt's source: count such statements apart). THE CARD IS WHAT COUNTS. Prove the row's statement (the work); the ties are given (YthfncdfcklbigaaDoorTie.lean); close each card by the builder's one call (the guide's Derived/Test/ToyasCard.lean, 'card_holds'). Laid BY PROGRAM, IN A SANDBOX (cutbox-door.mjs). By AI agents, Wed Nov 11 2026. No macro, syntax, notation, axiom, sorry.
-/
import Derived.Test.YthfncdfcklbigaaDoorRows
import GoSem.ClaimSeven
namespace Go.Proofs.YthfncdfcklbigaaDoor
namespace Rows

/-- THE TIED CARD OF 'laws.FnAhead'. -/
def fnAheadCard : Claim7 := { stood := { row := fnAheadRow, standIns := [], harness := (true, "877d222962520bb22ea08d8722ed2517ac02be4621e3c6c2b7a2cc2d8b614eb2"), looks := true }, kinds := [], alts := [], laidByText := true, laidKinds := [.sentinel, .sentinel, .sentinel, .data, .sentinel, .sentinel, .sentinel], laidTests := true, laidLooks := .later }
def FnAheadCardSaid : Prop := Claim7.holds Tryd.pinned (.plain (OpenSpec.ofChange fnAheadSpec)) fnAheadCard

/-- THE TIED CARD OF 'laws.FnBlocks'. -/
def fnBlocksCard : Claim7 := { stood := { row := fnBlocksRow, standIns := [], harness := (true, "877d222962520bb22ea08d8722ed2517ac02be4621e3c6c2b7a2cc2d8b614eb2"), looks := true }, kinds := [], alts := [], laidByText := true, laidKinds := [.sentinel, .sentinel, .sentinel, .data, .sentinel, .sentinel, .sentinel], laidTests := true, laidLooks := .later }
def FnBlocksCardSaid : Prop := Claim7.holds Tryd.pinned (.plain (OpenSpec.ofChange fnBlocksSpec)) fnBlocksCard

/-- THE TIED CARD OF 'laws.FnCut'. -/
def fnCutCard : Claim7 := { stood := { row := fnCutRow, standIns := [], harness := (true, "877d222962520bb22ea08d8722ed2517ac02be4621e3c6c2b7a2cc2d8b614eb2"), looks := true }, kinds := [], alts := [], laidByText := true, laidKinds := [.sentinel, .sentinel, .sentinel, .data, .sentinel, .sentinel, .sentinel], laidTests := true, laidLooks := .later }
def FnCutCardSaid : Prop := Claim7.holds Tryd.pinned (.plain (OpenSpec.ofChange fnCutSpec)) fnCutCard

/-- THE TIED CARD OF 'laws.FnDictionary'. -/
def fnDictionaryCard : Claim7 := { stood := { row := fnDictionaryRow, standIns := [], harness := (true, "877d222962520bb22ea08d8722ed2517ac02be4621e3c6c2b7a2cc2d8b614eb2"), looks := true }, kinds := [], alts := [], laidByText := true, laidKinds := [.sentinel, .sentinel, .sentinel, .data, .sentinel, .sentinel, .sentinel], laidTests := true, laidLooks := .later }
def FnDictionaryCardSaid : Prop := Claim7.holds Tryd.pinned (.plain (OpenSpec.ofChange fnDictionarySpec)) fnDictionaryCard

/-- THE TIED CARD OF 'laws.FnWrapped'. -/
def fnWrappedCard : Claim7 := { stood := { row := fnWrappedRow, standIns := [], harness := (true, "877d222962520bb22ea08d8722ed2517ac02be4621e3c6c2b7a2cc2d8b614eb2"), looks := true }, kinds := [], alts := [], laidByText := true, laidKinds := [.sentinel, .sentinel, .sentinel, .data, .sentinel, .sentinel, .sentinel], laidTests := true, laidLooks := .later }
def FnWrappedCardSaid : Prop := Claim7.holds Tryd.pinned (.plain (OpenSpec.ofChange fnWrappedSpec)) fnWrappedCard

/-- THE TIED CARD OF 'laws.FnFaults'. -/
def fnFaultsCard : Claim7 := { stood := { row := fnFaultsRow, standIns := [], harness := (true, "877d222962520bb22ea08d8722ed2517ac02be4621e3c6c2b7a2cc2d8b614eb2"), looks := true }, kinds := [], alts := [], laidByText := true, laidKinds := [.sentinel, .sentinel, .sentinel, .data, .sentinel, .sentinel, .sentinel], laidTests := true, laidLooks := .later }
def FnFaultsCardSaid : Prop := Claim7.holds Tryd.pinned (.plain (OpenSpec.ofChange fnFaultsSpec)) fnFaultsCard

/-- THE TIED CARD OF 'laws.FnFixedBlock'. -/
def fnFixedBlockCard : Claim7 := { stood := { row := fnFixedBlockRow, standIns := [], harness := (true, "877d222962520bb22ea08d8722ed2517ac02be4621e3c6c2b7a2cc2d8b614eb2"), looks := true }, kinds := [], alts := [], laidByText := true, laidKinds := [.sentinel, .sentinel, .sentinel, .data, .sentinel, .sentinel, .sentinel], laidTests := true, laidLooks := .later }
def FnFixedBlockCardSaid : Prop := Claim7.holds Tryd.pinned (.plain (OpenSpec.ofChange fnFixedBlockSpec)) fnFixedBlockCard

/-- THE TIED CARD OF 'laws.FnInflate'. -/
def fnInflateCard : Claim7 := { stood := { row := fnInflateRow, standIns := [], harness := (true, "877d222962520bb22ea08d8722ed2517ac02be4621e3c6c2b7a2cc2d8b614eb2"), looks := true }, kinds := [], alts := [], laidByText := true, laidKinds := [.sentinel, .sentinel, .sentinel, .data, .sentinel, .sentinel, .sentinel], laidTests := true, laidLooks := .later }
def FnInflateCardSaid : Prop := Claim7.holds Tryd.pinned (.plain (OpenSpec.ofChange fnInflateSpec)) fnInflateCard

/-- THE TIED CARD OF 'laws.FnInflateSizes'. -/
def fnInflateSizesCard : Claim7 := { stood := { row := fnInflateSizesRow, standIns := [], harness := (true, "877d222962520bb22ea08d8722ed2517ac02be4621e3c6c2b7a2cc2d8b614eb2"), looks := true }, kinds := [], alts := [], laidByText := true, laidKinds := [.sentinel, .sentinel, .sentinel, .data, .sentinel, .sentinel, .sentinel], laidTests := true, laidLooks := .later }
def FnInflateSizesCardSaid : Prop := Claim7.holds Tryd.pinned (.plain (OpenSpec.ofChange fnInflateSizesSpec)) fnInflateSizesCard

/-- THE TIED CARD OF 'laws.FnJoined'. -/
def fnJoinedCard : Claim7 := { stood := { row := fnJoinedRow, standIns := [], harness := (true, "877d222962520bb22ea08d8722ed2517ac02be4621e3c6c2b7a2cc2d8b614eb2"), looks := true }, kinds := [], alts := [], laidByText := true, laidKinds := [.sentinel, .sentinel, .sentinel, .data, .sentinel, .sentinel, .sentinel], laidTests := true, laidLooks := .later }
def FnJoinedCardSaid : Prop := Claim7.holds Tryd.pinned (.plain (OpenSpec.ofChange fnJoinedSpec)) fnJoinedCard

/-- THE TIED CARD OF 'laws.FnReserved'. -/
def fnReservedCard : Claim7 := { stood := { row := fnReservedRow, standIns := [], harness := (true, "877d222962520bb22ea08d8722ed2517ac02be4621e3c6c2b7a2cc2d8b614eb2"), looks := true }, kinds := [], alts := [], laidByText := true, laidKinds := [.sentinel, .sentinel, .sentinel, .data, .sentinel, .sentinel, .sentinel], laidTests := true, laidLooks := .later }
def FnReservedCardSaid : Prop := Claim7.holds Tryd.pinned (.plain (OpenSpec.ofChange fnReservedSpec)) fnReservedCard

/-- THE TIED CARD OF 'laws.FnStored'. -/
def fnStoredCard : Claim7 := { stood := { row := fnStoredRow, standIns := [], harness := (true, "877d222962520bb22ea08d8722ed2517ac02be4621e3c6c2b7a2cc2d8b614eb2"), looks := true }, kinds := [], alts := [], laidByText := true, laidKinds := [.sentinel, .sentinel, .sentinel, .data, .sentinel, .sentinel, .sentinel], laidTests := true, laidLooks := .later }
def FnStoredCardSaid : Prop := Claim7.holds Tryd.pinned (.plain (OpenSpec.ofChange fnStoredSpec)) fnStoredCard

/-- THE TIED CARD OF 'laws.FnStoredLength'. -/
def fnStoredLengthCard : Claim7 := { stood := { row := fnStoredLengthRow, standIns := [], harness := (true, "877d222962520bb22ea08d8722ed2517ac02be4621e3c6c2b7a2cc2d8b614eb2"), looks := true }, kinds := [], alts := [], laidByText := true, laidKinds := [.sentinel, .sentinel, .sentinel, .data, .sentinel, .sentinel, .sentinel], laidTests := true, laidLooks := .later }
def FnStoredLengthCardSaid : Prop := Claim7.holds Tryd.pinned (.plain (OpenSpec.ofChange fnStoredLengthSpec)) fnStoredLengthCard

/-- THE TIED CARD OF 'laws.FnInflateAgain'. -/
def fnInflateAgainCard : Claim7 := { stood := { row := fnInflateAgainRow, standIns := [], harness := (true, "877d222962520bb22ea08d8722ed2517ac02be4621e3c6c2b7a2cc2d8b614eb2"), looks := true }, kinds := [], alts := [], laidByText := true, laidKinds := [.sentinel, .sentinel, .sentinel, .data, .sentinel, .sentinel, .sentinel], laidTests := true, laidLooks := .later }
def FnInflateAgainCardSaid : Prop := Claim7.holds Tryd.pinned (.plain (OpenSpec.ofChange fnInflateAgainSpec)) fnInflateAgainCard

/-- THE SECOND FORM's CARD OF 'laws.FnAhead'. -/
def fnAheadUptoCard : Claim7 := { stood := { row := fnAheadUptoRow, standIns := [], harness := (true, "877d222962520bb22ea08d8722ed2517ac02be4621e3c6c2b7a2cc2d8b614eb2"), looks := true }, kinds := [], alts := [], laidByText := true, laidKinds := [.sentinel, .sentinel, .sentinel, .data, .sentinel, .sentinel, .sentinel], laidTests := true, laidLooks := .later }
def FnAheadUptoCardSaid : Prop := Claim7.holds Tryd.pinned (.plain (OpenSpec.upto fnAheadSpec)) fnAheadUptoCard

/-- THE SECOND FORM's CARD OF 'laws.FnBlocks'. -/
def fnBlocksUptoCard : Claim7 := { stood := { row := fnBlocksUptoRow, standIns := [], harness := (true, "877d222962520bb22ea08d8722ed2517ac02be4621e3c6c2b7a2cc2d8b614eb2"), looks := true }, kinds := [], alts := [], laidByText := true, laidKinds := [.sentinel, .sentinel, .sentinel, .data, .sentinel, .sentinel, .sentinel], laidTests := true, laidLooks := .later }
def FnBlocksUptoCardSaid : Prop := Claim7.holds Tryd.pinned (.plain (OpenSpec.upto fnBlocksSpec)) fnBlocksUptoCard

/-- THE SECOND FORM's CARD OF 'laws.FnCut'. -/
def fnCutUptoCard : Claim7 := { stood := { row := fnCutUptoRow, standIns := [], harness := (true, "877d222962520bb22ea08d8722ed2517ac02be4621e3c6c2b7a2cc2d8b614eb2"), looks := true }, kinds := [], alts := [], laidByText := true, laidKinds := [.sentinel, .sentinel, .sentinel, .data, .sentinel, .sentinel, .sentinel], laidTests := true, laidLooks := .later }
def FnCutUptoCardSaid : Prop := Claim7.holds Tryd.pinned (.plain (OpenSpec.upto fnCutSpec)) fnCutUptoCard

/-- THE SECOND FORM's CARD OF 'laws.FnDictionary'. -/
def fnDictionaryUptoCard : Claim7 := { stood := { row := fnDictionaryUptoRow, standIns := [], harness := (true, "877d222962520bb22ea08d8722ed2517ac02be4621e3c6c2b7a2cc2d8b614eb2"), looks := true }, kinds := [], alts := [], laidByText := true, laidKinds := [.sentinel, .sentinel, .sentinel, .data, .sentinel, .sentinel, .sentinel], laidTests := true, laidLooks := .later }
def FnDictionaryUptoCardSaid : Prop := Claim7.holds Tryd.pinned (.plain (OpenSpec.upto fnDictionarySpec)) fnDictionaryUptoCard

/-- THE SECOND FORM's CARD OF 'laws.FnWrapped'. -/
def fnWrappedUptoCard : Claim7 := { stood := { row := fnWrappedUptoRow, standIns := [], harness := (true, "877d222962520bb22ea08d8722ed2517ac02be4621e3c6c2b7a2cc2d8b614eb2"), looks := true }, kinds := [], alts := [], laidByText := true, laidKinds := [.sentinel, .sentinel, .sentinel, .data, .sentinel, .sentinel, .sentinel], laidTests := true, laidLooks := .later }
def FnWrappedUptoCardSaid : Prop := Claim7.holds Tryd.pinned (.plain (OpenSpec.upto fnWrappedSpec)) fnWrappedUptoCard

/-- THE SECOND FORM's CARD OF 'laws.FnFaults'. -/
def fnFaultsUptoCard : Claim7 := { stood := { row := fnFaultsUptoRow, standIns := [], harness := (true, "877d222962520bb22ea08d8722ed2517ac02be4621e3c6c2b7a2cc2d8b614eb2"), looks := true }, kinds := [], alts := [], laidByText := true, laidKinds := [.sentinel, .sentinel, .sentinel, .data, .sentinel, .sentinel, .sentinel], laidTests := true, laidLooks := .later }
def FnFaultsUptoCardSaid : Prop := Claim7.holds Tryd.pinned (.plain (OpenSpec.upto fnFaultsSpec)) fnFaultsUptoCard

/-- THE SECOND FORM's CARD OF 'laws.FnFixedBlock'. -/
def fnFixedBlockUptoCard : Claim7 := { stood := { row := fnFixedBlockUptoRow, standIns := [], harness := (true, "877d222962520bb22ea08d8722ed2517ac02be4621e3c6c2b7a2cc2d8b614eb2"), looks := true }, kinds := [], alts := [], laidByText := true, laidKinds := [.sentinel, .sentinel, .sentinel, .data, .sentinel, .sentinel, .sentinel], laidTests := true, laidLooks := .later }
def FnFixedBlockUptoCardSaid : Prop := Claim7.holds Tryd.pinned (.plain (OpenSpec.upto fnFixedBlockSpec)) fnFixedBlockUptoCard

/-- THE SECOND FORM's CARD OF 'laws.FnInflate'. -/
def fnInflateUptoCard : Claim7 := { stood := { row := fnInflateUptoRow, standIns := [], harness := (true, "877d222962520bb22ea08d8722ed2517ac02be4621e3c6c2b7a2cc2d8b614eb2"), looks := true }, kinds := [], alts := [], laidByText := true, laidKinds := [.sentinel, .sentinel, .sentinel, .data, .sentinel, .sentinel, .sentinel], laidTests := true, laidLooks := .later }
def FnInflateUptoCardSaid : Prop := Claim7.holds Tryd.pinned (.plain (OpenSpec.upto fnInflateSpec)) fnInflateUptoCard

/-- THE SECOND FORM's CARD OF 'laws.FnInflateSizes'. -/
def fnInflateSizesUptoCard : Claim7 := { stood := { row := fnInflateSizesUptoRow, standIns := [], harness := (true, "877d222962520bb22ea08d8722ed2517ac02be4621e3c6c2b7a2cc2d8b614eb2"), looks := true }, kinds := [], alts := [], laidByText := true, laidKinds := [.sentinel, .sentinel, .sentinel, .data, .sentinel, .sentinel, .sentinel], laidTests := true, laidLooks := .later }
def FnInflateSizesUptoCardSaid : Prop := Claim7.holds Tryd.pinned (.plain (OpenSpec.upto fnInflateSizesSpec)) fnInflateSizesUptoCard

/-- THE SECOND FORM's CARD OF 'laws.FnJoined'. -/
def fnJoinedUptoCard : Claim7 := { stood := { row := fnJoinedUptoRow, standIns := [], harness := (true, "877d222962520bb22ea08d8722ed2517ac02be4621e3c6c2b7a2cc2d8b614eb2"), looks := true }, kinds := [], alts := [], laidByText := true, laidKinds := [.sentinel, .sentinel, .sentinel, .data, .sentinel, .sentinel, .sentinel], laidTests := true, laidLooks := .later }
def FnJoinedUptoCardSaid : Prop := Claim7.holds Tryd.pinned (.plain (OpenSpec.upto fnJoinedSpec)) fnJoinedUptoCard

/-- THE SECOND FORM's CARD OF 'laws.FnReserved'. -/
def fnReservedUptoCard : Claim7 := { stood := { row := fnReservedUptoRow, standIns := [], harness := (true, "877d222962520bb22ea08d8722ed2517ac02be4621e3c6c2b7a2cc2d8b614eb2"), looks := true }, kinds := [], alts := [], laidByText := true, laidKinds := [.sentinel, .sentinel, .sentinel, .data, .sentinel, .sentinel, .sentinel], laidTests := true, laidLooks := .later }
def FnReservedUptoCardSaid : Prop := Claim7.holds Tryd.pinned (.plain (OpenSpec.upto fnReservedSpec)) fnReservedUptoCard

/-- THE SECOND FORM's CARD OF 'laws.FnStored'. -/
def fnStoredUptoCard : Claim7 := { stood := { row := fnStoredUptoRow, standIns := [], harness := (true, "877d222962520bb22ea08d8722ed2517ac02be4621e3c6c2b7a2cc2d8b614eb2"), looks := true }, kinds := [], alts := [], laidByText := true, laidKinds := [.sentinel, .sentinel, .sentinel, .data, .sentinel, .sentinel, .sentinel], laidTests := true, laidLooks := .later }
def FnStoredUptoCardSaid : Prop := Claim7.holds Tryd.pinned (.plain (OpenSpec.upto fnStoredSpec)) fnStoredUptoCard

/-- THE SECOND FORM's CARD OF 'laws.FnStoredLength'. -/
def fnStoredLengthUptoCard : Claim7 := { stood := { row := fnStoredLengthUptoRow, standIns := [], harness := (true, "877d222962520bb22ea08d8722ed2517ac02be4621e3c6c2b7a2cc2d8b614eb2"), looks := true }, kinds := [], alts := [], laidByText := true, laidKinds := [.sentinel, .sentinel, .sentinel, .data, .sentinel, .sentinel, .sentinel], laidTests := true, laidLooks := .later }
def FnStoredLengthUptoCardSaid : Prop := Claim7.holds Tryd.pinned (.plain (OpenSpec.upto fnStoredLengthSpec)) fnStoredLengthUptoCard

/-- THE SECOND FORM's CARD OF 'laws.FnInflateAgain'. -/
def fnInflateAgainUptoCard : Claim7 := { stood := { row := fnInflateAgainUptoRow, standIns := [], harness := (true, "877d222962520bb22ea08d8722ed2517ac02be4621e3c6c2b7a2cc2d8b614eb2"), looks := true }, kinds := [], alts := [], laidByText := true, laidKinds := [.sentinel, .sentinel, .sentinel, .data, .sentinel, .sentinel, .sentinel], laidTests := true, laidLooks := .later }
def FnInflateAgainUptoCardSaid : Prop := Claim7.holds Tryd.pinned (.plain (OpenSpec.upto fnInflateAgainSpec)) fnInflateAgainUptoCard
end Rows
end Go.Proofs.YthfncdfcklbigaaDoor
