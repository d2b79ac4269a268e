/-
  DERIVED. GIVEN WITH THE SEED: THE CARDS: each row of YthpapbilhjobnaaGreatDoorRows.lean that lists a variable, with what it lists TIED to the program's text (the seventh form; the later family's looks); each row that meets fmt, with fmt's text TOLD by the authors' own Lean function (tested against real Go, not proved from fmt's source: count such statements apart). THE CARD IS WHAT COUNTS. Prove the row's statement (the work); the ties are given (YthpapbilhjobnaaGreatDoorTie.lean); close each card by the builder's one call (the guide's Derived/Test/ToyasCard.lean, 'card_holds'). Laid BY PROGRAM, IN A SANDBOX (cutbox-door.mjs). By AI agents, Wed Nov 11 2026. No macro, syntax, notation, axiom, sorry.
-/
import Derived.Test.YthpapbilhjobnaaGreatDoorRows
import GoSem.ClaimSeven
namespace Go.Proofs.YthpapbilhjobnaaGreatDoor
namespace Rows

/-- THE TIED CARD OF 'laws.FnReaderAgain'. -/
def fnReaderAgainCard : Claim7 := { stood := { row := fnReaderAgainRow, standIns := [], harness := (true, "1ab363e0c478fab10b0f6048d977980dc6c93d3fbc8521f150453533d6698d19"), looks := true }, kinds := [], alts := [], laidByText := true, laidKinds := [.sentinel, .sentinel, .sentinel, .data, .sentinel, .sentinel, .sentinel], laidTests := true, laidLooks := .later }
def FnReaderAgainCardSaid : Prop := Claim7.holds Tryz.pinned (.plain (OpenSpec.ofChange fnReaderAgainSpec)) fnReaderAgainCard

/-- THE TIED CARD OF 'laws.FnChecksum'. -/
def fnChecksumCard : Claim7 := { stood := { row := fnChecksumRow, standIns := [], harness := (true, "1ab363e0c478fab10b0f6048d977980dc6c93d3fbc8521f150453533d6698d19"), looks := true }, kinds := [], alts := [], laidByText := true, laidKinds := [.sentinel, .sentinel, .sentinel, .data, .sentinel, .sentinel, .sentinel], laidTests := true, laidLooks := .later }
def FnChecksumCardSaid : Prop := Claim7.holds Tryz.pinned (.plain (OpenSpec.ofChange fnChecksumSpec)) fnChecksumCard

/-- THE TIED CARD OF 'laws.FnCut'. -/
def fnCutCard : Claim7 := { stood := { row := fnCutRow, standIns := [], harness := (true, "1ab363e0c478fab10b0f6048d977980dc6c93d3fbc8521f150453533d6698d19"), looks := true }, kinds := [], alts := [], laidByText := true, laidKinds := [.sentinel, .sentinel, .sentinel, .data, .sentinel, .sentinel, .sentinel], laidTests := true, laidLooks := .later }
def FnCutCardSaid : Prop := Claim7.holds Tryz.pinned (.plain (OpenSpec.ofChange fnCutSpec)) fnCutCard

/-- THE TIED CARD OF 'laws.FnHeader'. -/
def fnHeaderCard : Claim7 := { stood := { row := fnHeaderRow, standIns := [], harness := (true, "1ab363e0c478fab10b0f6048d977980dc6c93d3fbc8521f150453533d6698d19"), looks := true }, kinds := [], alts := [], laidByText := true, laidKinds := [.sentinel, .sentinel, .sentinel, .data, .sentinel, .sentinel, .sentinel], laidTests := true, laidLooks := .later }
def FnHeaderCardSaid : Prop := Claim7.holds Tryz.pinned (.plain (OpenSpec.ofChange fnHeaderSpec)) fnHeaderCard

/-- THE TIED CARD OF 'laws.FnIgnored'. -/
def fnIgnoredCard : Claim7 := { stood := { row := fnIgnoredRow, standIns := [], harness := (true, "1ab363e0c478fab10b0f6048d977980dc6c93d3fbc8521f150453533d6698d19"), looks := true }, kinds := [], alts := [], laidByText := true, laidKinds := [.sentinel, .sentinel, .sentinel, .data, .sentinel, .sentinel, .sentinel], laidTests := true, laidLooks := .later }
def FnIgnoredCardSaid : Prop := Claim7.holds Tryz.pinned (.plain (OpenSpec.ofChange fnIgnoredSpec)) fnIgnoredCard

/-- THE TIED CARD OF 'laws.FnOtherDictionary'. -/
def fnOtherDictionaryCard : Claim7 := { stood := { row := fnOtherDictionaryRow, standIns := [], harness := (true, "1ab363e0c478fab10b0f6048d977980dc6c93d3fbc8521f150453533d6698d19"), looks := true }, kinds := [], alts := [], laidByText := true, laidKinds := [.sentinel, .sentinel, .sentinel, .data, .sentinel, .sentinel, .sentinel], laidTests := true, laidLooks := .later }
def FnOtherDictionaryCardSaid : Prop := Claim7.holds Tryz.pinned (.plain (OpenSpec.ofChange fnOtherDictionarySpec)) fnOtherDictionaryCard

/-- THE TIED CARD OF 'laws.FnRead'. -/
def fnReadCard : Claim7 := { stood := { row := fnReadRow, standIns := [], harness := (true, "1ab363e0c478fab10b0f6048d977980dc6c93d3fbc8521f150453533d6698d19"), looks := true }, kinds := [], alts := [], laidByText := true, laidKinds := [.sentinel, .sentinel, .sentinel, .data, .sentinel, .sentinel, .sentinel], laidTests := true, laidLooks := .later }
def FnReadCardSaid : Prop := Claim7.holds Tryz.pinned (.plain (OpenSpec.ofChange fnReadSpec)) fnReadCard

/-- THE TIED CARD OF 'laws.FnRest'. -/
def fnRestCard : Claim7 := { stood := { row := fnRestRow, standIns := [], harness := (true, "1ab363e0c478fab10b0f6048d977980dc6c93d3fbc8521f150453533d6698d19"), looks := true }, kinds := [], alts := [], laidByText := true, laidKinds := [.sentinel, .sentinel, .sentinel, .data, .sentinel, .sentinel, .sentinel], laidTests := true, laidLooks := .later }
def FnRestCardSaid : Prop := Claim7.holds Tryz.pinned (.plain (OpenSpec.ofChange fnRestSpec)) fnRestCard

/-- THE TIED CARD OF 'laws.FnSizes'. -/
def fnSizesCard : Claim7 := { stood := { row := fnSizesRow, standIns := [], harness := (true, "1ab363e0c478fab10b0f6048d977980dc6c93d3fbc8521f150453533d6698d19"), looks := true }, kinds := [], alts := [], laidByText := true, laidKinds := [.sentinel, .sentinel, .sentinel, .data, .sentinel, .sentinel, .sentinel], laidTests := true, laidLooks := .later }
def FnSizesCardSaid : Prop := Claim7.holds Tryz.pinned (.plain (OpenSpec.ofChange fnSizesSpec)) fnSizesCard

/-- THE SECOND FORM's CARD OF 'laws.FnReaderAgain'. -/
def fnReaderAgainUptoCard : Claim7 := { stood := { row := fnReaderAgainUptoRow, standIns := [], harness := (true, "1ab363e0c478fab10b0f6048d977980dc6c93d3fbc8521f150453533d6698d19"), looks := true }, kinds := [], alts := [], laidByText := true, laidKinds := [.sentinel, .sentinel, .sentinel, .data, .sentinel, .sentinel, .sentinel], laidTests := true, laidLooks := .later }
def FnReaderAgainUptoCardSaid : Prop := Claim7.holds Tryz.pinned (.plain (OpenSpec.upto fnReaderAgainSpec)) fnReaderAgainUptoCard

/-- THE SECOND FORM's CARD OF 'laws.FnChecksum'. -/
def fnChecksumUptoCard : Claim7 := { stood := { row := fnChecksumUptoRow, standIns := [], harness := (true, "1ab363e0c478fab10b0f6048d977980dc6c93d3fbc8521f150453533d6698d19"), looks := true }, kinds := [], alts := [], laidByText := true, laidKinds := [.sentinel, .sentinel, .sentinel, .data, .sentinel, .sentinel, .sentinel], laidTests := true, laidLooks := .later }
def FnChecksumUptoCardSaid : Prop := Claim7.holds Tryz.pinned (.plain (OpenSpec.upto fnChecksumSpec)) fnChecksumUptoCard

/-- THE SECOND FORM's CARD OF 'laws.FnCut'. -/
def fnCutUptoCard : Claim7 := { stood := { row := fnCutUptoRow, standIns := [], harness := (true, "1ab363e0c478fab10b0f6048d977980dc6c93d3fbc8521f150453533d6698d19"), looks := true }, kinds := [], alts := [], laidByText := true, laidKinds := [.sentinel, .sentinel, .sentinel, .data, .sentinel, .sentinel, .sentinel], laidTests := true, laidLooks := .later }
def FnCutUptoCardSaid : Prop := Claim7.holds Tryz.pinned (.plain (OpenSpec.upto fnCutSpec)) fnCutUptoCard

/-- THE SECOND FORM's CARD OF 'laws.FnHeader'. -/
def fnHeaderUptoCard : Claim7 := { stood := { row := fnHeaderUptoRow, standIns := [], harness := (true, "1ab363e0c478fab10b0f6048d977980dc6c93d3fbc8521f150453533d6698d19"), looks := true }, kinds := [], alts := [], laidByText := true, laidKinds := [.sentinel, .sentinel, .sentinel, .data, .sentinel, .sentinel, .sentinel], laidTests := true, laidLooks := .later }
def FnHeaderUptoCardSaid : Prop := Claim7.holds Tryz.pinned (.plain (OpenSpec.upto fnHeaderSpec)) fnHeaderUptoCard

/-- THE SECOND FORM's CARD OF 'laws.FnIgnored'. -/
def fnIgnoredUptoCard : Claim7 := { stood := { row := fnIgnoredUptoRow, standIns := [], harness := (true, "1ab363e0c478fab10b0f6048d977980dc6c93d3fbc8521f150453533d6698d19"), looks := true }, kinds := [], alts := [], laidByText := true, laidKinds := [.sentinel, .sentinel, .sentinel, .data, .sentinel, .sentinel, .sentinel], laidTests := true, laidLooks := .later }
def FnIgnoredUptoCardSaid : Prop := Claim7.holds Tryz.pinned (.plain (OpenSpec.upto fnIgnoredSpec)) fnIgnoredUptoCard

/-- THE SECOND FORM's CARD OF 'laws.FnOtherDictionary'. -/
def fnOtherDictionaryUptoCard : Claim7 := { stood := { row := fnOtherDictionaryUptoRow, standIns := [], harness := (true, "1ab363e0c478fab10b0f6048d977980dc6c93d3fbc8521f150453533d6698d19"), looks := true }, kinds := [], alts := [], laidByText := true, laidKinds := [.sentinel, .sentinel, .sentinel, .data, .sentinel, .sentinel, .sentinel], laidTests := true, laidLooks := .later }
def FnOtherDictionaryUptoCardSaid : Prop := Claim7.holds Tryz.pinned (.plain (OpenSpec.upto fnOtherDictionarySpec)) fnOtherDictionaryUptoCard

/-- THE SECOND FORM's CARD OF 'laws.FnRead'. -/
def fnReadUptoCard : Claim7 := { stood := { row := fnReadUptoRow, standIns := [], harness := (true, "1ab363e0c478fab10b0f6048d977980dc6c93d3fbc8521f150453533d6698d19"), looks := true }, kinds := [], alts := [], laidByText := true, laidKinds := [.sentinel, .sentinel, .sentinel, .data, .sentinel, .sentinel, .sentinel], laidTests := true, laidLooks := .later }
def FnReadUptoCardSaid : Prop := Claim7.holds Tryz.pinned (.plain (OpenSpec.upto fnReadSpec)) fnReadUptoCard

/-- THE SECOND FORM's CARD OF 'laws.FnRest'. -/
def fnRestUptoCard : Claim7 := { stood := { row := fnRestUptoRow, standIns := [], harness := (true, "1ab363e0c478fab10b0f6048d977980dc6c93d3fbc8521f150453533d6698d19"), looks := true }, kinds := [], alts := [], laidByText := true, laidKinds := [.sentinel, .sentinel, .sentinel, .data, .sentinel, .sentinel, .sentinel], laidTests := true, laidLooks := .later }
def FnRestUptoCardSaid : Prop := Claim7.holds Tryz.pinned (.plain (OpenSpec.upto fnRestSpec)) fnRestUptoCard

/-- THE SECOND FORM's CARD OF 'laws.FnSizes'. -/
def fnSizesUptoCard : Claim7 := { stood := { row := fnSizesUptoRow, standIns := [], harness := (true, "1ab363e0c478fab10b0f6048d977980dc6c93d3fbc8521f150453533d6698d19"), looks := true }, kinds := [], alts := [], laidByText := true, laidKinds := [.sentinel, .sentinel, .sentinel, .data, .sentinel, .sentinel, .sentinel], laidTests := true, laidLooks := .later }
def FnSizesUptoCardSaid : Prop := Claim7.holds Tryz.pinned (.plain (OpenSpec.upto fnSizesSpec)) fnSizesUptoCard
end Rows
end Go.Proofs.YthpapbilhjobnaaGreatDoor
