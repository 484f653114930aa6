/-
  DERIVED. GIVEN WITH THE SEED: THE CARDS: each row of YtcbfbccmghdpgabDoorRows.lean that lists a variable, with what it lists TIED to the program's text (the seventh form; the later family's looks); each row that meets fmt, with fmt's text TOLD by the authors' own Lean function (tested against real Go, not proved from fmt's source: count such statements apart). THE CARD IS WHAT COUNTS. Prove the row's statement (the work); the ties are given (YtcbfbccmghdpgabDoorTie.lean); close each card by the builder's one call (the guide's Derived/Test/ToyasCard.lean, 'card_holds'). Laid BY PROGRAM, IN A SANDBOX (cutbox-door.mjs). By AI agents, Wed Nov 11 2026. No macro, syntax, notation, axiom, sorry.
-/
import Derived.Test.YtcbfbccmghdpgabDoorRows
import GoSem.ClaimSeven
namespace Go.Proofs.YtcbfbccmghdpgabDoor
namespace Rows

/-- THE TIED CARD OF 'laws.FnErrorsCounted'. -/
def fnErrorsCountedCard : Claim7 := { stood := { row := fnErrorsCountedRow, standIns := [], harness := (true, "1ba2fef2befd76e179fff6c4998314951d6e7dbd6b7023f2e11b38e02f35fabc"), looks := false }, kinds := [], alts := [], laidByText := true, laidKinds := [.data, .pinned], laidTests := true, laidLooks := .later }
def FnErrorsCountedCardSaid : Prop := Claim7.holds Tryd.pinned (.plain (OpenSpec.ofChange fnErrorsCountedSpec)) fnErrorsCountedCard

/-- THE TIED CARD OF 'laws.FnAppendInTwo'. -/
def fnAppendInTwoCard : Claim7 := { stood := { row := fnAppendInTwoRow, standIns := [], harness := (true, "1ba2fef2befd76e179fff6c4998314951d6e7dbd6b7023f2e11b38e02f35fabc"), looks := false }, kinds := [], alts := [], laidByText := true, laidKinds := [.data, .pinned], laidTests := true, laidLooks := .later }
def FnAppendInTwoCardSaid : Prop := Claim7.holds Tryd.pinned (.plain (OpenSpec.ofChange fnAppendInTwoSpec)) fnAppendInTwoCard

/-- THE TIED CARD OF 'laws.FnManyParts'. -/
def fnManyPartsCard : Claim7 := { stood := { row := fnManyPartsRow, standIns := [], harness := (true, "1ba2fef2befd76e179fff6c4998314951d6e7dbd6b7023f2e11b38e02f35fabc"), looks := false }, kinds := [], alts := [], laidByText := true, laidKinds := [.data, .pinned], laidTests := true, laidLooks := .later }
def FnManyPartsCardSaid : Prop := Claim7.holds Tryd.pinned (.plain (OpenSpec.ofChange fnManyPartsSpec)) fnManyPartsCard

/-- THE TIED CARD OF 'laws.FnByteCuts'. -/
def fnByteCutsCard : Claim7 := { stood := { row := fnByteCutsRow, standIns := [], harness := (true, "1ba2fef2befd76e179fff6c4998314951d6e7dbd6b7023f2e11b38e02f35fabc"), looks := false }, kinds := [], alts := [], laidByText := true, laidKinds := [.data, .pinned], laidTests := true, laidLooks := .later }
def FnByteCutsCardSaid : Prop := Claim7.holds Tryd.pinned (.plain (OpenSpec.ofChange fnByteCutsSpec)) fnByteCutsCard

/-- THE TIED CARD OF 'laws.FnSizesTellUnits'. -/
def fnSizesTellUnitsCard : Claim7 := { stood := { row := fnSizesTellUnitsRow, standIns := [], harness := (true, "1ba2fef2befd76e179fff6c4998314951d6e7dbd6b7023f2e11b38e02f35fabc"), looks := false }, kinds := [], alts := [], laidByText := true, laidKinds := [.data, .pinned], laidTests := true, laidLooks := .later }
def FnSizesTellUnitsCardSaid : Prop := Claim7.holds Tryd.pinned (.plain (OpenSpec.ofChange fnSizesTellUnitsSpec)) fnSizesTellUnitsCard

/-- THE TIED CARD OF 'laws.FnTextLengths'. -/
def fnTextLengthsCard : Claim7 := { stood := { row := fnTextLengthsRow, standIns := [], harness := (true, "1ba2fef2befd76e179fff6c4998314951d6e7dbd6b7023f2e11b38e02f35fabc"), looks := false }, kinds := [], alts := [], laidByText := true, laidKinds := [.data, .pinned], laidTests := true, laidLooks := .later }
def FnTextLengthsCardSaid : Prop := Claim7.holds Tryd.pinned (.plain (OpenSpec.ofChange fnTextLengthsSpec)) fnTextLengthsCard

/-- THE TIED CARD OF 'laws.FnPutTogether'. -/
def fnPutTogetherCard : Claim7 := { stood := { row := fnPutTogetherRow, standIns := [], harness := (true, "1ba2fef2befd76e179fff6c4998314951d6e7dbd6b7023f2e11b38e02f35fabc"), looks := false }, kinds := [], alts := [], laidByText := true, laidKinds := [.data, .pinned], laidTests := true, laidLooks := .later }
def FnPutTogetherCardSaid : Prop := Claim7.holds Tryd.pinned (.plain (OpenSpec.ofChange fnPutTogetherSpec)) fnPutTogetherCard

/-- THE TIED CARD OF 'laws.FnHalvesAsRunes'. -/
def fnHalvesAsRunesCard : Claim7 := { stood := { row := fnHalvesAsRunesRow, standIns := [], harness := (true, "1ba2fef2befd76e179fff6c4998314951d6e7dbd6b7023f2e11b38e02f35fabc"), looks := false }, kinds := [], alts := [], laidByText := true, laidKinds := [.data, .pinned], laidTests := true, laidLooks := .later }
def FnHalvesAsRunesCardSaid : Prop := Claim7.holds Tryd.pinned (.plain (OpenSpec.ofChange fnHalvesAsRunesSpec)) fnHalvesAsRunesCard

/-- THE TIED CARD OF 'laws.FnBackwardsAcross'. -/
def fnBackwardsAcrossCard : Claim7 := { stood := { row := fnBackwardsAcrossRow, standIns := [], harness := (true, "1ba2fef2befd76e179fff6c4998314951d6e7dbd6b7023f2e11b38e02f35fabc"), looks := false }, kinds := [], alts := [], laidByText := true, laidKinds := [.data, .pinned], laidTests := true, laidLooks := .later }
def FnBackwardsAcrossCardSaid : Prop := Claim7.holds Tryd.pinned (.plain (OpenSpec.ofChange fnBackwardsAcrossSpec)) fnBackwardsAcrossCard

/-- THE TIED CARD OF 'laws.FnBytesAcross'. -/
def fnBytesAcrossCard : Claim7 := { stood := { row := fnBytesAcrossRow, standIns := [], harness := (true, "1ba2fef2befd76e179fff6c4998314951d6e7dbd6b7023f2e11b38e02f35fabc"), looks := false }, kinds := [], alts := [], laidByText := true, laidKinds := [.data, .pinned], laidTests := true, laidLooks := .later }
def FnBytesAcrossCardSaid : Prop := Claim7.holds Tryd.pinned (.plain (OpenSpec.ofChange fnBytesAcrossSpec)) fnBytesAcrossCard

/-- THE TIED CARD OF 'laws.FnUnitsAcross'. -/
def fnUnitsAcrossCard : Claim7 := { stood := { row := fnUnitsAcrossRow, standIns := [], harness := (true, "1ba2fef2befd76e179fff6c4998314951d6e7dbd6b7023f2e11b38e02f35fabc"), looks := false }, kinds := [], alts := [], laidByText := true, laidKinds := [.data, .pinned], laidTests := true, laidLooks := .later }
def FnUnitsAcrossCardSaid : Prop := Claim7.holds Tryd.pinned (.plain (OpenSpec.ofChange fnUnitsAcrossSpec)) fnUnitsAcrossCard

/-- THE TIED CARD OF 'laws.FnManyPieces'. -/
def fnManyPiecesCard : Claim7 := { stood := { row := fnManyPiecesRow, standIns := [], harness := (true, "1ba2fef2befd76e179fff6c4998314951d6e7dbd6b7023f2e11b38e02f35fabc"), looks := false }, kinds := [], alts := [], laidByText := true, laidKinds := [.data, .pinned], laidTests := true, laidLooks := .later }
def FnManyPiecesCardSaid : Prop := Claim7.holds Tryd.pinned (.plain (OpenSpec.ofChange fnManyPiecesSpec)) fnManyPiecesCard

/-- THE SECOND FORM's CARD OF 'laws.FnErrorsCounted'. -/
def fnErrorsCountedUptoCard : Claim7 := { stood := { row := fnErrorsCountedUptoRow, standIns := [], harness := (true, "1ba2fef2befd76e179fff6c4998314951d6e7dbd6b7023f2e11b38e02f35fabc"), looks := false }, kinds := [], alts := [], laidByText := true, laidKinds := [.data, .pinned], laidTests := true, laidLooks := .later }
def FnErrorsCountedUptoCardSaid : Prop := Claim7.holds Tryd.pinned (.plain (OpenSpec.upto fnErrorsCountedSpec)) fnErrorsCountedUptoCard

/-- THE SECOND FORM's CARD OF 'laws.FnAppendInTwo'. -/
def fnAppendInTwoUptoCard : Claim7 := { stood := { row := fnAppendInTwoUptoRow, standIns := [], harness := (true, "1ba2fef2befd76e179fff6c4998314951d6e7dbd6b7023f2e11b38e02f35fabc"), looks := false }, kinds := [], alts := [], laidByText := true, laidKinds := [.data, .pinned], laidTests := true, laidLooks := .later }
def FnAppendInTwoUptoCardSaid : Prop := Claim7.holds Tryd.pinned (.plain (OpenSpec.upto fnAppendInTwoSpec)) fnAppendInTwoUptoCard

/-- THE SECOND FORM's CARD OF 'laws.FnManyParts'. -/
def fnManyPartsUptoCard : Claim7 := { stood := { row := fnManyPartsUptoRow, standIns := [], harness := (true, "1ba2fef2befd76e179fff6c4998314951d6e7dbd6b7023f2e11b38e02f35fabc"), looks := false }, kinds := [], alts := [], laidByText := true, laidKinds := [.data, .pinned], laidTests := true, laidLooks := .later }
def FnManyPartsUptoCardSaid : Prop := Claim7.holds Tryd.pinned (.plain (OpenSpec.upto fnManyPartsSpec)) fnManyPartsUptoCard

/-- THE SECOND FORM's CARD OF 'laws.FnByteCuts'. -/
def fnByteCutsUptoCard : Claim7 := { stood := { row := fnByteCutsUptoRow, standIns := [], harness := (true, "1ba2fef2befd76e179fff6c4998314951d6e7dbd6b7023f2e11b38e02f35fabc"), looks := false }, kinds := [], alts := [], laidByText := true, laidKinds := [.data, .pinned], laidTests := true, laidLooks := .later }
def FnByteCutsUptoCardSaid : Prop := Claim7.holds Tryd.pinned (.plain (OpenSpec.upto fnByteCutsSpec)) fnByteCutsUptoCard

/-- THE SECOND FORM's CARD OF 'laws.FnSizesTellUnits'. -/
def fnSizesTellUnitsUptoCard : Claim7 := { stood := { row := fnSizesTellUnitsUptoRow, standIns := [], harness := (true, "1ba2fef2befd76e179fff6c4998314951d6e7dbd6b7023f2e11b38e02f35fabc"), looks := false }, kinds := [], alts := [], laidByText := true, laidKinds := [.data, .pinned], laidTests := true, laidLooks := .later }
def FnSizesTellUnitsUptoCardSaid : Prop := Claim7.holds Tryd.pinned (.plain (OpenSpec.upto fnSizesTellUnitsSpec)) fnSizesTellUnitsUptoCard

/-- THE SECOND FORM's CARD OF 'laws.FnTextLengths'. -/
def fnTextLengthsUptoCard : Claim7 := { stood := { row := fnTextLengthsUptoRow, standIns := [], harness := (true, "1ba2fef2befd76e179fff6c4998314951d6e7dbd6b7023f2e11b38e02f35fabc"), looks := false }, kinds := [], alts := [], laidByText := true, laidKinds := [.data, .pinned], laidTests := true, laidLooks := .later }
def FnTextLengthsUptoCardSaid : Prop := Claim7.holds Tryd.pinned (.plain (OpenSpec.upto fnTextLengthsSpec)) fnTextLengthsUptoCard

/-- THE SECOND FORM's CARD OF 'laws.FnPutTogether'. -/
def fnPutTogetherUptoCard : Claim7 := { stood := { row := fnPutTogetherUptoRow, standIns := [], harness := (true, "1ba2fef2befd76e179fff6c4998314951d6e7dbd6b7023f2e11b38e02f35fabc"), looks := false }, kinds := [], alts := [], laidByText := true, laidKinds := [.data, .pinned], laidTests := true, laidLooks := .later }
def FnPutTogetherUptoCardSaid : Prop := Claim7.holds Tryd.pinned (.plain (OpenSpec.upto fnPutTogetherSpec)) fnPutTogetherUptoCard

/-- THE SECOND FORM's CARD OF 'laws.FnHalvesAsRunes'. -/
def fnHalvesAsRunesUptoCard : Claim7 := { stood := { row := fnHalvesAsRunesUptoRow, standIns := [], harness := (true, "1ba2fef2befd76e179fff6c4998314951d6e7dbd6b7023f2e11b38e02f35fabc"), looks := false }, kinds := [], alts := [], laidByText := true, laidKinds := [.data, .pinned], laidTests := true, laidLooks := .later }
def FnHalvesAsRunesUptoCardSaid : Prop := Claim7.holds Tryd.pinned (.plain (OpenSpec.upto fnHalvesAsRunesSpec)) fnHalvesAsRunesUptoCard

/-- THE SECOND FORM's CARD OF 'laws.FnBackwardsAcross'. -/
def fnBackwardsAcrossUptoCard : Claim7 := { stood := { row := fnBackwardsAcrossUptoRow, standIns := [], harness := (true, "1ba2fef2befd76e179fff6c4998314951d6e7dbd6b7023f2e11b38e02f35fabc"), looks := false }, kinds := [], alts := [], laidByText := true, laidKinds := [.data, .pinned], laidTests := true, laidLooks := .later }
def FnBackwardsAcrossUptoCardSaid : Prop := Claim7.holds Tryd.pinned (.plain (OpenSpec.upto fnBackwardsAcrossSpec)) fnBackwardsAcrossUptoCard

/-- THE SECOND FORM's CARD OF 'laws.FnBytesAcross'. -/
def fnBytesAcrossUptoCard : Claim7 := { stood := { row := fnBytesAcrossUptoRow, standIns := [], harness := (true, "1ba2fef2befd76e179fff6c4998314951d6e7dbd6b7023f2e11b38e02f35fabc"), looks := false }, kinds := [], alts := [], laidByText := true, laidKinds := [.data, .pinned], laidTests := true, laidLooks := .later }
def FnBytesAcrossUptoCardSaid : Prop := Claim7.holds Tryd.pinned (.plain (OpenSpec.upto fnBytesAcrossSpec)) fnBytesAcrossUptoCard

/-- THE SECOND FORM's CARD OF 'laws.FnUnitsAcross'. -/
def fnUnitsAcrossUptoCard : Claim7 := { stood := { row := fnUnitsAcrossUptoRow, standIns := [], harness := (true, "1ba2fef2befd76e179fff6c4998314951d6e7dbd6b7023f2e11b38e02f35fabc"), looks := false }, kinds := [], alts := [], laidByText := true, laidKinds := [.data, .pinned], laidTests := true, laidLooks := .later }
def FnUnitsAcrossUptoCardSaid : Prop := Claim7.holds Tryd.pinned (.plain (OpenSpec.upto fnUnitsAcrossSpec)) fnUnitsAcrossUptoCard

/-- THE SECOND FORM's CARD OF 'laws.FnManyPieces'. -/
def fnManyPiecesUptoCard : Claim7 := { stood := { row := fnManyPiecesUptoRow, standIns := [], harness := (true, "1ba2fef2befd76e179fff6c4998314951d6e7dbd6b7023f2e11b38e02f35fabc"), looks := false }, kinds := [], alts := [], laidByText := true, laidKinds := [.data, .pinned], laidTests := true, laidLooks := .later }
def FnManyPiecesUptoCardSaid : Prop := Claim7.holds Tryd.pinned (.plain (OpenSpec.upto fnManyPiecesSpec)) fnManyPiecesUptoCard
end Rows
end Go.Proofs.YtcbfbccmghdpgabDoor
