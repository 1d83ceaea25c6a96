/-
  DERIVED. GIVEN WITH THE SEED: THE CARDS: each row of YtmfihkgbfoapaaaDoorRows.lean that lists a variable, with what it lists TIED to the program's text (the seventh form; the later family's looks); each row that meets fmt, with fmt's text TOLD by the authors' own Lean function (tested against real Go, not proved from fmt's source: count such statements apart). THE CARD IS WHAT COUNTS. Prove the row's statement (the work); the ties are given (YtmfihkgbfoapaaaDoorTie.lean); close each card by the builder's one call (the guide's Derived/Test/ToyasCard.lean, 'card_holds'). Laid BY PROGRAM, IN A SANDBOX (cutbox-door.mjs). By AI agents, Wed Nov 11 2026. No macro, syntax, notation, axiom, sorry.
-/
import Derived.Test.YtmfihkgbfoapaaaDoorRows
import GoSem.ClaimSeven
namespace Go.Proofs.YtmfihkgbfoapaaaDoor
namespace Rows

/-- THE TIED CARD OF 'laws.FnBOM'. -/
def fnBOMCard : Claim7 := { stood := { row := fnBOMRow, standIns := [], harness := (true, "8cd2102d094c810226bac6b32bdeb5e55e1fde6d57f2245febe696c4e64c86ef"), looks := true }, kinds := [], alts := [], laidByText := true, laidKinds := [.data, .sentinel, .data, .sentinel, .pinned, .pinned, .pinned], laidTests := true, laidLooks := .later }
def FnBOMCardSaid : Prop := Claim7.holds Tryd.pinned (.plain (OpenSpec.ofChange fnBOMSpec)) fnBOMCard

/-- THE TIED CARD OF 'laws.FnCover'. -/
def fnCoverCard : Claim7 := { stood := { row := fnCoverRow, standIns := [], harness := (true, "8cd2102d094c810226bac6b32bdeb5e55e1fde6d57f2245febe696c4e64c86ef"), looks := true }, kinds := [], alts := [], laidByText := true, laidKinds := [.data, .sentinel, .data, .sentinel, .pinned, .pinned, .pinned], laidTests := true, laidLooks := .later }
def FnCoverCardSaid : Prop := Claim7.holds Tryd.pinned (.plain (OpenSpec.ofChange fnCoverSpec)) fnCoverCard

/-- THE TIED CARD OF 'laws.FnErrors'. -/
def fnErrorsCard : Claim7 := { stood := { row := fnErrorsRow, standIns := [], harness := (true, "8cd2102d094c810226bac6b32bdeb5e55e1fde6d57f2245febe696c4e64c86ef"), looks := true }, kinds := [], alts := [], laidByText := true, laidKinds := [.data, .sentinel, .data, .sentinel, .pinned, .pinned, .pinned], laidTests := true, laidLooks := .later }
def FnErrorsCardSaid : Prop := Claim7.holds Tryd.pinned (.plain (OpenSpec.ofChange fnErrorsSpec)) fnErrorsCard

/-- THE TIED CARD OF 'laws.FnInvalid'. -/
def fnInvalidCard : Claim7 := { stood := { row := fnInvalidRow, standIns := [], harness := (true, "8cd2102d094c810226bac6b32bdeb5e55e1fde6d57f2245febe696c4e64c86ef"), looks := true }, kinds := [], alts := [], laidByText := true, laidKinds := [.data, .sentinel, .data, .sentinel, .pinned, .pinned, .pinned], laidTests := true, laidLooks := .later }
def FnInvalidCardSaid : Prop := Claim7.holds Tryd.pinned (.plain (OpenSpec.ofChange fnInvalidSpec)) fnInvalidCard

/-- THE TIED CARD OF 'laws.FnJoined'. -/
def fnJoinedCard : Claim7 := { stood := { row := fnJoinedRow, standIns := [], harness := (true, "8cd2102d094c810226bac6b32bdeb5e55e1fde6d57f2245febe696c4e64c86ef"), looks := true }, kinds := [], alts := [], laidByText := true, laidKinds := [.data, .sentinel, .data, .sentinel, .pinned, .pinned, .pinned], laidTests := true, laidLooks := .later }
def FnJoinedCardSaid : Prop := Claim7.holds Tryd.pinned (.plain (OpenSpec.ofChange fnJoinedSpec)) fnJoinedCard

/-- THE TIED CARD OF 'laws.FnLines'. -/
def fnLinesCard : Claim7 := { stood := { row := fnLinesRow, standIns := [], harness := (true, "8cd2102d094c810226bac6b32bdeb5e55e1fde6d57f2245febe696c4e64c86ef"), looks := true }, kinds := [], alts := [], laidByText := true, laidKinds := [.data, .sentinel, .data, .sentinel, .pinned, .pinned, .pinned], laidTests := true, laidLooks := .later }
def FnLinesCardSaid : Prop := Claim7.holds Tryd.pinned (.plain (OpenSpec.ofChange fnLinesSpec)) fnLinesCard

/-- THE TIED CARD OF 'laws.FnNUL'. -/
def fnNULCard : Claim7 := { stood := { row := fnNULRow, standIns := [], harness := (true, "8cd2102d094c810226bac6b32bdeb5e55e1fde6d57f2245febe696c4e64c86ef"), looks := true }, kinds := [], alts := [], laidByText := true, laidKinds := [.data, .sentinel, .data, .sentinel, .pinned, .pinned, .pinned], laidTests := true, laidLooks := .later }
def FnNULCardSaid : Prop := Claim7.holds Tryd.pinned (.plain (OpenSpec.ofChange fnNULSpec)) fnNULCard

/-- THE TIED CARD OF 'laws.FnScan'. -/
def fnScanCard : Claim7 := { stood := { row := fnScanRow, standIns := [], harness := (true, "8cd2102d094c810226bac6b32bdeb5e55e1fde6d57f2245febe696c4e64c86ef"), looks := true }, kinds := [], alts := [], laidByText := true, laidKinds := [.data, .sentinel, .data, .sentinel, .pinned, .pinned, .pinned], laidTests := true, laidLooks := .later }
def FnScanCardSaid : Prop := Claim7.holds Tryd.pinned (.plain (OpenSpec.ofChange fnScanSpec)) fnScanCard

/-- THE TIED CARD OF 'laws.FnSingle'. -/
def fnSingleCard : Claim7 := { stood := { row := fnSingleRow, standIns := [], harness := (true, "8cd2102d094c810226bac6b32bdeb5e55e1fde6d57f2245febe696c4e64c86ef"), looks := true }, kinds := [], alts := [], laidByText := true, laidKinds := [.data, .sentinel, .data, .sentinel, .pinned, .pinned, .pinned], laidTests := true, laidLooks := .later }
def FnSingleCardSaid : Prop := Claim7.holds Tryd.pinned (.plain (OpenSpec.ofChange fnSingleSpec)) fnSingleCard

/-- THE TIED CARD OF 'laws.FnSizes'. -/
def fnSizesCard : Claim7 := { stood := { row := fnSizesRow, standIns := [], harness := (true, "8cd2102d094c810226bac6b32bdeb5e55e1fde6d57f2245febe696c4e64c86ef"), looks := true }, kinds := [], alts := [], laidByText := true, laidKinds := [.data, .sentinel, .data, .sentinel, .pinned, .pinned, .pinned], laidTests := true, laidLooks := .later }
def FnSizesCardSaid : Prop := Claim7.holds Tryd.pinned (.plain (OpenSpec.ofChange fnSizesSpec)) fnSizesCard

/-- THE TIED CARD OF 'laws.FnSkip'. -/
def fnSkipCard : Claim7 := { stood := { row := fnSkipRow, standIns := [], harness := (true, "8cd2102d094c810226bac6b32bdeb5e55e1fde6d57f2245febe696c4e64c86ef"), looks := true }, kinds := [], alts := [], laidByText := true, laidKinds := [.data, .sentinel, .data, .sentinel, .pinned, .pinned, .pinned], laidTests := true, laidLooks := .later }
def FnSkipCardSaid : Prop := Claim7.holds Tryd.pinned (.plain (OpenSpec.ofChange fnSkipSpec)) fnSkipCard

/-- THE TIED CARD OF 'laws.FnSpace'. -/
def fnSpaceCard : Claim7 := { stood := { row := fnSpaceRow, standIns := [], harness := (true, "8cd2102d094c810226bac6b32bdeb5e55e1fde6d57f2245febe696c4e64c86ef"), looks := true }, kinds := [], alts := [], laidByText := true, laidKinds := [.data, .sentinel, .data, .sentinel, .pinned, .pinned, .pinned], laidTests := true, laidLooks := .later }
def FnSpaceCardSaid : Prop := Claim7.holds Tryd.pinned (.plain (OpenSpec.ofChange fnSpaceSpec)) fnSpaceCard

/-- THE TIED CARD OF 'laws.FnWritten'. -/
def fnWrittenCard : Claim7 := { stood := { row := fnWrittenRow, standIns := [], harness := (true, "8cd2102d094c810226bac6b32bdeb5e55e1fde6d57f2245febe696c4e64c86ef"), looks := true }, kinds := [], alts := [], laidByText := true, laidKinds := [.data, .sentinel, .data, .sentinel, .pinned, .pinned, .pinned], laidTests := true, laidLooks := .later }
def FnWrittenCardSaid : Prop := Claim7.holds Tryd.pinned (.plain (OpenSpec.ofChange fnWrittenSpec)) fnWrittenCard

/-- THE TIED CARD OF 'laws.FnDefault'. -/
def fnDefaultCard : Claim7 := { stood := { row := fnDefaultRow, standIns := [], harness := (true, "8cd2102d094c810226bac6b32bdeb5e55e1fde6d57f2245febe696c4e64c86ef"), looks := true }, kinds := [], alts := [], laidByText := true, laidKinds := [.data, .sentinel, .data, .sentinel, .pinned, .pinned, .pinned], laidTests := true, laidLooks := .later }
def FnDefaultCardSaid : Prop := Claim7.holds Tryd.pinned (.plain (OpenSpec.ofChange fnDefaultSpec)) fnDefaultCard

/-- THE TIED CARD OF 'laws.FnRunes'. -/
def fnRunesCard : Claim7 := { stood := { row := fnRunesRow, standIns := [], harness := (true, "8cd2102d094c810226bac6b32bdeb5e55e1fde6d57f2245febe696c4e64c86ef"), looks := true }, kinds := [], alts := [], laidByText := true, laidKinds := [.data, .sentinel, .data, .sentinel, .pinned, .pinned, .pinned], laidTests := true, laidLooks := .later }
def FnRunesCardSaid : Prop := Claim7.holds Tryd.pinned (.plain (OpenSpec.ofChange fnRunesSpec)) fnRunesCard

/-- THE TIED CARD OF 'laws.FnPeek'. -/
def fnPeekCard : Claim7 := { stood := { row := fnPeekRow, standIns := [], harness := (true, "8cd2102d094c810226bac6b32bdeb5e55e1fde6d57f2245febe696c4e64c86ef"), looks := true }, kinds := [], alts := [], laidByText := true, laidKinds := [.data, .sentinel, .data, .sentinel, .pinned, .pinned, .pinned], laidTests := true, laidLooks := .later }
def FnPeekCardSaid : Prop := Claim7.holds Tryd.pinned (.plain (OpenSpec.ofChange fnPeekSpec)) fnPeekCard

/-- THE TIED CARD OF 'laws.FnScript'. -/
def fnScriptCard : Claim7 := { stood := { row := fnScriptRow, standIns := [], harness := (true, "8cd2102d094c810226bac6b32bdeb5e55e1fde6d57f2245febe696c4e64c86ef"), looks := true }, kinds := [], alts := [], laidByText := true, laidKinds := [.data, .sentinel, .data, .sentinel, .pinned, .pinned, .pinned], laidTests := true, laidLooks := .later }
def FnScriptCardSaid : Prop := Claim7.holds Tryd.pinned (.plain (OpenSpec.ofChange fnScriptSpec)) fnScriptCard

/-- THE SECOND FORM's CARD OF 'laws.FnBOM'. -/
def fnBOMUptoCard : Claim7 := { stood := { row := fnBOMUptoRow, standIns := [], harness := (true, "8cd2102d094c810226bac6b32bdeb5e55e1fde6d57f2245febe696c4e64c86ef"), looks := true }, kinds := [], alts := [], laidByText := true, laidKinds := [.data, .sentinel, .data, .sentinel, .pinned, .pinned, .pinned], laidTests := true, laidLooks := .later }
def FnBOMUptoCardSaid : Prop := Claim7.holds Tryd.pinned (.plain (OpenSpec.upto fnBOMSpec)) fnBOMUptoCard

/-- THE SECOND FORM's CARD OF 'laws.FnCover'. -/
def fnCoverUptoCard : Claim7 := { stood := { row := fnCoverUptoRow, standIns := [], harness := (true, "8cd2102d094c810226bac6b32bdeb5e55e1fde6d57f2245febe696c4e64c86ef"), looks := true }, kinds := [], alts := [], laidByText := true, laidKinds := [.data, .sentinel, .data, .sentinel, .pinned, .pinned, .pinned], laidTests := true, laidLooks := .later }
def FnCoverUptoCardSaid : Prop := Claim7.holds Tryd.pinned (.plain (OpenSpec.upto fnCoverSpec)) fnCoverUptoCard

/-- THE SECOND FORM's CARD OF 'laws.FnErrors'. -/
def fnErrorsUptoCard : Claim7 := { stood := { row := fnErrorsUptoRow, standIns := [], harness := (true, "8cd2102d094c810226bac6b32bdeb5e55e1fde6d57f2245febe696c4e64c86ef"), looks := true }, kinds := [], alts := [], laidByText := true, laidKinds := [.data, .sentinel, .data, .sentinel, .pinned, .pinned, .pinned], laidTests := true, laidLooks := .later }
def FnErrorsUptoCardSaid : Prop := Claim7.holds Tryd.pinned (.plain (OpenSpec.upto fnErrorsSpec)) fnErrorsUptoCard

/-- THE SECOND FORM's CARD OF 'laws.FnInvalid'. -/
def fnInvalidUptoCard : Claim7 := { stood := { row := fnInvalidUptoRow, standIns := [], harness := (true, "8cd2102d094c810226bac6b32bdeb5e55e1fde6d57f2245febe696c4e64c86ef"), looks := true }, kinds := [], alts := [], laidByText := true, laidKinds := [.data, .sentinel, .data, .sentinel, .pinned, .pinned, .pinned], laidTests := true, laidLooks := .later }
def FnInvalidUptoCardSaid : Prop := Claim7.holds Tryd.pinned (.plain (OpenSpec.upto fnInvalidSpec)) fnInvalidUptoCard

/-- THE SECOND FORM's CARD OF 'laws.FnJoined'. -/
def fnJoinedUptoCard : Claim7 := { stood := { row := fnJoinedUptoRow, standIns := [], harness := (true, "8cd2102d094c810226bac6b32bdeb5e55e1fde6d57f2245febe696c4e64c86ef"), looks := true }, kinds := [], alts := [], laidByText := true, laidKinds := [.data, .sentinel, .data, .sentinel, .pinned, .pinned, .pinned], laidTests := true, laidLooks := .later }
def FnJoinedUptoCardSaid : Prop := Claim7.holds Tryd.pinned (.plain (OpenSpec.upto fnJoinedSpec)) fnJoinedUptoCard

/-- THE SECOND FORM's CARD OF 'laws.FnLines'. -/
def fnLinesUptoCard : Claim7 := { stood := { row := fnLinesUptoRow, standIns := [], harness := (true, "8cd2102d094c810226bac6b32bdeb5e55e1fde6d57f2245febe696c4e64c86ef"), looks := true }, kinds := [], alts := [], laidByText := true, laidKinds := [.data, .sentinel, .data, .sentinel, .pinned, .pinned, .pinned], laidTests := true, laidLooks := .later }
def FnLinesUptoCardSaid : Prop := Claim7.holds Tryd.pinned (.plain (OpenSpec.upto fnLinesSpec)) fnLinesUptoCard

/-- THE SECOND FORM's CARD OF 'laws.FnNUL'. -/
def fnNULUptoCard : Claim7 := { stood := { row := fnNULUptoRow, standIns := [], harness := (true, "8cd2102d094c810226bac6b32bdeb5e55e1fde6d57f2245febe696c4e64c86ef"), looks := true }, kinds := [], alts := [], laidByText := true, laidKinds := [.data, .sentinel, .data, .sentinel, .pinned, .pinned, .pinned], laidTests := true, laidLooks := .later }
def FnNULUptoCardSaid : Prop := Claim7.holds Tryd.pinned (.plain (OpenSpec.upto fnNULSpec)) fnNULUptoCard

/-- THE SECOND FORM's CARD OF 'laws.FnScan'. -/
def fnScanUptoCard : Claim7 := { stood := { row := fnScanUptoRow, standIns := [], harness := (true, "8cd2102d094c810226bac6b32bdeb5e55e1fde6d57f2245febe696c4e64c86ef"), looks := true }, kinds := [], alts := [], laidByText := true, laidKinds := [.data, .sentinel, .data, .sentinel, .pinned, .pinned, .pinned], laidTests := true, laidLooks := .later }
def FnScanUptoCardSaid : Prop := Claim7.holds Tryd.pinned (.plain (OpenSpec.upto fnScanSpec)) fnScanUptoCard

/-- THE SECOND FORM's CARD OF 'laws.FnSingle'. -/
def fnSingleUptoCard : Claim7 := { stood := { row := fnSingleUptoRow, standIns := [], harness := (true, "8cd2102d094c810226bac6b32bdeb5e55e1fde6d57f2245febe696c4e64c86ef"), looks := true }, kinds := [], alts := [], laidByText := true, laidKinds := [.data, .sentinel, .data, .sentinel, .pinned, .pinned, .pinned], laidTests := true, laidLooks := .later }
def FnSingleUptoCardSaid : Prop := Claim7.holds Tryd.pinned (.plain (OpenSpec.upto fnSingleSpec)) fnSingleUptoCard

/-- THE SECOND FORM's CARD OF 'laws.FnSizes'. -/
def fnSizesUptoCard : Claim7 := { stood := { row := fnSizesUptoRow, standIns := [], harness := (true, "8cd2102d094c810226bac6b32bdeb5e55e1fde6d57f2245febe696c4e64c86ef"), looks := true }, kinds := [], alts := [], laidByText := true, laidKinds := [.data, .sentinel, .data, .sentinel, .pinned, .pinned, .pinned], laidTests := true, laidLooks := .later }
def FnSizesUptoCardSaid : Prop := Claim7.holds Tryd.pinned (.plain (OpenSpec.upto fnSizesSpec)) fnSizesUptoCard

/-- THE SECOND FORM's CARD OF 'laws.FnSkip'. -/
def fnSkipUptoCard : Claim7 := { stood := { row := fnSkipUptoRow, standIns := [], harness := (true, "8cd2102d094c810226bac6b32bdeb5e55e1fde6d57f2245febe696c4e64c86ef"), looks := true }, kinds := [], alts := [], laidByText := true, laidKinds := [.data, .sentinel, .data, .sentinel, .pinned, .pinned, .pinned], laidTests := true, laidLooks := .later }
def FnSkipUptoCardSaid : Prop := Claim7.holds Tryd.pinned (.plain (OpenSpec.upto fnSkipSpec)) fnSkipUptoCard

/-- THE SECOND FORM's CARD OF 'laws.FnSpace'. -/
def fnSpaceUptoCard : Claim7 := { stood := { row := fnSpaceUptoRow, standIns := [], harness := (true, "8cd2102d094c810226bac6b32bdeb5e55e1fde6d57f2245febe696c4e64c86ef"), looks := true }, kinds := [], alts := [], laidByText := true, laidKinds := [.data, .sentinel, .data, .sentinel, .pinned, .pinned, .pinned], laidTests := true, laidLooks := .later }
def FnSpaceUptoCardSaid : Prop := Claim7.holds Tryd.pinned (.plain (OpenSpec.upto fnSpaceSpec)) fnSpaceUptoCard

/-- THE SECOND FORM's CARD OF 'laws.FnWritten'. -/
def fnWrittenUptoCard : Claim7 := { stood := { row := fnWrittenUptoRow, standIns := [], harness := (true, "8cd2102d094c810226bac6b32bdeb5e55e1fde6d57f2245febe696c4e64c86ef"), looks := true }, kinds := [], alts := [], laidByText := true, laidKinds := [.data, .sentinel, .data, .sentinel, .pinned, .pinned, .pinned], laidTests := true, laidLooks := .later }
def FnWrittenUptoCardSaid : Prop := Claim7.holds Tryd.pinned (.plain (OpenSpec.upto fnWrittenSpec)) fnWrittenUptoCard

/-- THE SECOND FORM's CARD OF 'laws.FnDefault'. -/
def fnDefaultUptoCard : Claim7 := { stood := { row := fnDefaultUptoRow, standIns := [], harness := (true, "8cd2102d094c810226bac6b32bdeb5e55e1fde6d57f2245febe696c4e64c86ef"), looks := true }, kinds := [], alts := [], laidByText := true, laidKinds := [.data, .sentinel, .data, .sentinel, .pinned, .pinned, .pinned], laidTests := true, laidLooks := .later }
def FnDefaultUptoCardSaid : Prop := Claim7.holds Tryd.pinned (.plain (OpenSpec.upto fnDefaultSpec)) fnDefaultUptoCard

/-- THE SECOND FORM's CARD OF 'laws.FnRunes'. -/
def fnRunesUptoCard : Claim7 := { stood := { row := fnRunesUptoRow, standIns := [], harness := (true, "8cd2102d094c810226bac6b32bdeb5e55e1fde6d57f2245febe696c4e64c86ef"), looks := true }, kinds := [], alts := [], laidByText := true, laidKinds := [.data, .sentinel, .data, .sentinel, .pinned, .pinned, .pinned], laidTests := true, laidLooks := .later }
def FnRunesUptoCardSaid : Prop := Claim7.holds Tryd.pinned (.plain (OpenSpec.upto fnRunesSpec)) fnRunesUptoCard

/-- THE SECOND FORM's CARD OF 'laws.FnPeek'. -/
def fnPeekUptoCard : Claim7 := { stood := { row := fnPeekUptoRow, standIns := [], harness := (true, "8cd2102d094c810226bac6b32bdeb5e55e1fde6d57f2245febe696c4e64c86ef"), looks := true }, kinds := [], alts := [], laidByText := true, laidKinds := [.data, .sentinel, .data, .sentinel, .pinned, .pinned, .pinned], laidTests := true, laidLooks := .later }
def FnPeekUptoCardSaid : Prop := Claim7.holds Tryd.pinned (.plain (OpenSpec.upto fnPeekSpec)) fnPeekUptoCard

/-- THE SECOND FORM's CARD OF 'laws.FnScript'. -/
def fnScriptUptoCard : Claim7 := { stood := { row := fnScriptUptoRow, standIns := [], harness := (true, "8cd2102d094c810226bac6b32bdeb5e55e1fde6d57f2245febe696c4e64c86ef"), looks := true }, kinds := [], alts := [], laidByText := true, laidKinds := [.data, .sentinel, .data, .sentinel, .pinned, .pinned, .pinned], laidTests := true, laidLooks := .later }
def FnScriptUptoCardSaid : Prop := Claim7.holds Tryd.pinned (.plain (OpenSpec.upto fnScriptSpec)) fnScriptUptoCard
end Rows
end Go.Proofs.YtmfihkgbfoapaaaDoor
