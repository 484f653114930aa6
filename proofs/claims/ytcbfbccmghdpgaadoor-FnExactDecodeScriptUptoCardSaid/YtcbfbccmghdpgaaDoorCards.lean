/-
  DERIVED. GIVEN WITH THE SEED: THE CARDS: each row of YtcbfbccmghdpgaaDoorRows.lean that lists a variable, with what it lists TIED to the program's text (the seventh form; the later family's looks); each row that meets fmt, with fmt's text TOLD by the authors' own Lean function (tested against real Go, not proved from fmt's source: count such statements apart). THE CARD IS WHAT COUNTS. Prove the row's statement (the work); the ties are given (YtcbfbccmghdpgaaDoorTie.lean); close each card by the builder's one call (the guide's Derived/Test/ToyasCard.lean, 'card_holds'). Laid BY PROGRAM, IN A SANDBOX (cutbox-door.mjs). By AI agents, Wed Nov 11 2026. No macro, syntax, notation, axiom, sorry.
-/
import Derived.Test.YtcbfbccmghdpgaaDoorRows
import GoSem.ClaimSeven
namespace Go.Proofs.YtcbfbccmghdpgaaDoor
namespace Rows

/-- THE TIED CARD OF 'laws.FnRoadsScript'. -/
def fnRoadsScriptCard : Claim7 := { stood := { row := fnRoadsScriptRow, standIns := [], harness := (true, "93b8130b6ab7f1ab2272982c9c01ecc0714f209dc40fd580aba889276bad7f48"), looks := false }, kinds := [], alts := [], laidByText := true, laidKinds := [.data, .pinned], laidTests := true, laidLooks := .later }
def FnRoadsScriptCardSaid : Prop := Claim7.holds Tryd.pinned (.plain (OpenSpec.ofChange fnRoadsScriptSpec)) fnRoadsScriptCard

/-- THE TIED CARD OF 'laws.FnFromAnywhere'. -/
def fnFromAnywhereCard : Claim7 := { stood := { row := fnFromAnywhereRow, standIns := [], harness := (true, "93b8130b6ab7f1ab2272982c9c01ecc0714f209dc40fd580aba889276bad7f48"), looks := false }, kinds := [], alts := [], laidByText := true, laidKinds := [.data, .pinned], laidTests := true, laidLooks := .later }
def FnFromAnywhereCardSaid : Prop := Claim7.holds Tryd.pinned (.plain (OpenSpec.ofChange fnFromAnywhereSpec)) fnFromAnywhereCard

/-- THE TIED CARD OF 'laws.FnBothEnds'. -/
def fnBothEndsCard : Claim7 := { stood := { row := fnBothEndsRow, standIns := [], harness := (true, "93b8130b6ab7f1ab2272982c9c01ecc0714f209dc40fd580aba889276bad7f48"), looks := false }, kinds := [], alts := [], laidByText := true, laidKinds := [.data, .pinned], laidTests := true, laidLooks := .later }
def FnBothEndsCardSaid : Prop := Claim7.holds Tryd.pinned (.plain (OpenSpec.ofChange fnBothEndsSpec)) fnBothEndsCard

/-- THE TIED CARD OF 'laws.FnPlacesAcross'. -/
def fnPlacesAcrossCard : Claim7 := { stood := { row := fnPlacesAcrossRow, standIns := [], harness := (true, "93b8130b6ab7f1ab2272982c9c01ecc0714f209dc40fd580aba889276bad7f48"), looks := false }, kinds := [], alts := [], laidByText := true, laidKinds := [.data, .pinned], laidTests := true, laidLooks := .later }
def FnPlacesAcrossCardSaid : Prop := Claim7.holds Tryd.pinned (.plain (OpenSpec.ofChange fnPlacesAcrossSpec)) fnPlacesAcrossCard

/-- THE TIED CARD OF 'laws.FnFullAtCuts'. -/
def fnFullAtCutsCard : Claim7 := { stood := { row := fnFullAtCutsRow, standIns := [], harness := (true, "93b8130b6ab7f1ab2272982c9c01ecc0714f209dc40fd580aba889276bad7f48"), looks := false }, kinds := [], alts := [], laidByText := true, laidKinds := [.data, .pinned], laidTests := true, laidLooks := .later }
def FnFullAtCutsCardSaid : Prop := Claim7.holds Tryd.pinned (.plain (OpenSpec.ofChange fnFullAtCutsSpec)) fnFullAtCutsCard

/-- THE TIED CARD OF 'laws.FnExactDecodeScript'. -/
def fnExactDecodeScriptCard : Claim7 := { stood := { row := fnExactDecodeScriptRow, standIns := [], harness := (true, "93b8130b6ab7f1ab2272982c9c01ecc0714f209dc40fd580aba889276bad7f48"), looks := false }, kinds := [], alts := [], laidByText := true, laidKinds := [.data, .pinned], laidTests := true, laidLooks := .later }
def FnExactDecodeScriptCardSaid : Prop := Claim7.holds Tryd.pinned (.plain (OpenSpec.ofChange fnExactDecodeScriptSpec)) fnExactDecodeScriptCard

/-- THE TIED CARD OF 'laws.FnScriptIsReference'. -/
def fnScriptIsReferenceCard : Claim7 := { stood := { row := fnScriptIsReferenceRow, standIns := [], harness := (true, "93b8130b6ab7f1ab2272982c9c01ecc0714f209dc40fd580aba889276bad7f48"), looks := false }, kinds := [], alts := [], laidByText := true, laidKinds := [.data, .pinned], laidTests := true, laidLooks := .later }
def FnScriptIsReferenceCardSaid : Prop := Claim7.holds Tryd.pinned (.plain (OpenSpec.ofChange fnScriptIsReferenceSpec)) fnScriptIsReferenceCard

/-- THE TIED CARD OF 'laws.FnFurtherByte'. -/
def fnFurtherByteCard : Claim7 := { stood := { row := fnFurtherByteRow, standIns := [], harness := (true, "93b8130b6ab7f1ab2272982c9c01ecc0714f209dc40fd580aba889276bad7f48"), looks := false }, kinds := [], alts := [], laidByText := true, laidKinds := [.data, .pinned], laidTests := true, laidLooks := .later }
def FnFurtherByteCardSaid : Prop := Claim7.holds Tryd.pinned (.plain (OpenSpec.ofChange fnFurtherByteSpec)) fnFurtherByteCard

/-- THE TIED CARD OF 'laws.FnLostBytes'. -/
def fnLostBytesCard : Claim7 := { stood := { row := fnLostBytesRow, standIns := [], harness := (true, "93b8130b6ab7f1ab2272982c9c01ecc0714f209dc40fd580aba889276bad7f48"), looks := false }, kinds := [], alts := [], laidByText := true, laidKinds := [.data, .pinned], laidTests := true, laidLooks := .later }
def FnLostBytesCardSaid : Prop := Claim7.holds Tryd.pinned (.plain (OpenSpec.ofChange fnLostBytesSpec)) fnLostBytesCard

/-- THE TIED CARD OF 'laws.FnOtherByte'. -/
def fnOtherByteCard : Claim7 := { stood := { row := fnOtherByteRow, standIns := [], harness := (true, "93b8130b6ab7f1ab2272982c9c01ecc0714f209dc40fd580aba889276bad7f48"), looks := false }, kinds := [], alts := [], laidByText := true, laidKinds := [.data, .pinned], laidTests := true, laidLooks := .later }
def FnOtherByteCardSaid : Prop := Claim7.holds Tryd.pinned (.plain (OpenSpec.ofChange fnOtherByteSpec)) fnOtherByteCard

/-- THE TIED CARD OF 'laws.FnValidCuts'. -/
def fnValidCutsCard : Claim7 := { stood := { row := fnValidCutsRow, standIns := [], harness := (true, "93b8130b6ab7f1ab2272982c9c01ecc0714f209dc40fd580aba889276bad7f48"), looks := false }, kinds := [], alts := [], laidByText := true, laidKinds := [.data, .pinned], laidTests := true, laidLooks := .later }
def FnValidCutsCardSaid : Prop := Claim7.holds Tryd.pinned (.plain (OpenSpec.ofChange fnValidCutsSpec)) fnValidCutsCard

/-- THE TIED CARD OF 'laws.FnFullOnce'. -/
def fnFullOnceCard : Claim7 := { stood := { row := fnFullOnceRow, standIns := [], harness := (true, "93b8130b6ab7f1ab2272982c9c01ecc0714f209dc40fd580aba889276bad7f48"), looks := false }, kinds := [], alts := [], laidByText := true, laidKinds := [.data, .pinned], laidTests := true, laidLooks := .later }
def FnFullOnceCardSaid : Prop := Claim7.holds Tryd.pinned (.plain (OpenSpec.ofChange fnFullOnceSpec)) fnFullOnceCard

/-- THE SECOND FORM's CARD OF 'laws.FnRoadsScript'. -/
def fnRoadsScriptUptoCard : Claim7 := { stood := { row := fnRoadsScriptUptoRow, standIns := [], harness := (true, "93b8130b6ab7f1ab2272982c9c01ecc0714f209dc40fd580aba889276bad7f48"), looks := false }, kinds := [], alts := [], laidByText := true, laidKinds := [.data, .pinned], laidTests := true, laidLooks := .later }
def FnRoadsScriptUptoCardSaid : Prop := Claim7.holds Tryd.pinned (.plain (OpenSpec.upto fnRoadsScriptSpec)) fnRoadsScriptUptoCard

/-- THE SECOND FORM's CARD OF 'laws.FnFromAnywhere'. -/
def fnFromAnywhereUptoCard : Claim7 := { stood := { row := fnFromAnywhereUptoRow, standIns := [], harness := (true, "93b8130b6ab7f1ab2272982c9c01ecc0714f209dc40fd580aba889276bad7f48"), looks := false }, kinds := [], alts := [], laidByText := true, laidKinds := [.data, .pinned], laidTests := true, laidLooks := .later }
def FnFromAnywhereUptoCardSaid : Prop := Claim7.holds Tryd.pinned (.plain (OpenSpec.upto fnFromAnywhereSpec)) fnFromAnywhereUptoCard

/-- THE SECOND FORM's CARD OF 'laws.FnBothEnds'. -/
def fnBothEndsUptoCard : Claim7 := { stood := { row := fnBothEndsUptoRow, standIns := [], harness := (true, "93b8130b6ab7f1ab2272982c9c01ecc0714f209dc40fd580aba889276bad7f48"), looks := false }, kinds := [], alts := [], laidByText := true, laidKinds := [.data, .pinned], laidTests := true, laidLooks := .later }
def FnBothEndsUptoCardSaid : Prop := Claim7.holds Tryd.pinned (.plain (OpenSpec.upto fnBothEndsSpec)) fnBothEndsUptoCard

/-- THE SECOND FORM's CARD OF 'laws.FnPlacesAcross'. -/
def fnPlacesAcrossUptoCard : Claim7 := { stood := { row := fnPlacesAcrossUptoRow, standIns := [], harness := (true, "93b8130b6ab7f1ab2272982c9c01ecc0714f209dc40fd580aba889276bad7f48"), looks := false }, kinds := [], alts := [], laidByText := true, laidKinds := [.data, .pinned], laidTests := true, laidLooks := .later }
def FnPlacesAcrossUptoCardSaid : Prop := Claim7.holds Tryd.pinned (.plain (OpenSpec.upto fnPlacesAcrossSpec)) fnPlacesAcrossUptoCard

/-- THE SECOND FORM's CARD OF 'laws.FnFullAtCuts'. -/
def fnFullAtCutsUptoCard : Claim7 := { stood := { row := fnFullAtCutsUptoRow, standIns := [], harness := (true, "93b8130b6ab7f1ab2272982c9c01ecc0714f209dc40fd580aba889276bad7f48"), looks := false }, kinds := [], alts := [], laidByText := true, laidKinds := [.data, .pinned], laidTests := true, laidLooks := .later }
def FnFullAtCutsUptoCardSaid : Prop := Claim7.holds Tryd.pinned (.plain (OpenSpec.upto fnFullAtCutsSpec)) fnFullAtCutsUptoCard

/-- THE SECOND FORM's CARD OF 'laws.FnExactDecodeScript'. -/
def fnExactDecodeScriptUptoCard : Claim7 := { stood := { row := fnExactDecodeScriptUptoRow, standIns := [], harness := (true, "93b8130b6ab7f1ab2272982c9c01ecc0714f209dc40fd580aba889276bad7f48"), looks := false }, kinds := [], alts := [], laidByText := true, laidKinds := [.data, .pinned], laidTests := true, laidLooks := .later }
def FnExactDecodeScriptUptoCardSaid : Prop := Claim7.holds Tryd.pinned (.plain (OpenSpec.upto fnExactDecodeScriptSpec)) fnExactDecodeScriptUptoCard

/-- THE SECOND FORM's CARD OF 'laws.FnScriptIsReference'. -/
def fnScriptIsReferenceUptoCard : Claim7 := { stood := { row := fnScriptIsReferenceUptoRow, standIns := [], harness := (true, "93b8130b6ab7f1ab2272982c9c01ecc0714f209dc40fd580aba889276bad7f48"), looks := false }, kinds := [], alts := [], laidByText := true, laidKinds := [.data, .pinned], laidTests := true, laidLooks := .later }
def FnScriptIsReferenceUptoCardSaid : Prop := Claim7.holds Tryd.pinned (.plain (OpenSpec.upto fnScriptIsReferenceSpec)) fnScriptIsReferenceUptoCard

/-- THE SECOND FORM's CARD OF 'laws.FnFurtherByte'. -/
def fnFurtherByteUptoCard : Claim7 := { stood := { row := fnFurtherByteUptoRow, standIns := [], harness := (true, "93b8130b6ab7f1ab2272982c9c01ecc0714f209dc40fd580aba889276bad7f48"), looks := false }, kinds := [], alts := [], laidByText := true, laidKinds := [.data, .pinned], laidTests := true, laidLooks := .later }
def FnFurtherByteUptoCardSaid : Prop := Claim7.holds Tryd.pinned (.plain (OpenSpec.upto fnFurtherByteSpec)) fnFurtherByteUptoCard

/-- THE SECOND FORM's CARD OF 'laws.FnLostBytes'. -/
def fnLostBytesUptoCard : Claim7 := { stood := { row := fnLostBytesUptoRow, standIns := [], harness := (true, "93b8130b6ab7f1ab2272982c9c01ecc0714f209dc40fd580aba889276bad7f48"), looks := false }, kinds := [], alts := [], laidByText := true, laidKinds := [.data, .pinned], laidTests := true, laidLooks := .later }
def FnLostBytesUptoCardSaid : Prop := Claim7.holds Tryd.pinned (.plain (OpenSpec.upto fnLostBytesSpec)) fnLostBytesUptoCard

/-- THE SECOND FORM's CARD OF 'laws.FnOtherByte'. -/
def fnOtherByteUptoCard : Claim7 := { stood := { row := fnOtherByteUptoRow, standIns := [], harness := (true, "93b8130b6ab7f1ab2272982c9c01ecc0714f209dc40fd580aba889276bad7f48"), looks := false }, kinds := [], alts := [], laidByText := true, laidKinds := [.data, .pinned], laidTests := true, laidLooks := .later }
def FnOtherByteUptoCardSaid : Prop := Claim7.holds Tryd.pinned (.plain (OpenSpec.upto fnOtherByteSpec)) fnOtherByteUptoCard

/-- THE SECOND FORM's CARD OF 'laws.FnValidCuts'. -/
def fnValidCutsUptoCard : Claim7 := { stood := { row := fnValidCutsUptoRow, standIns := [], harness := (true, "93b8130b6ab7f1ab2272982c9c01ecc0714f209dc40fd580aba889276bad7f48"), looks := false }, kinds := [], alts := [], laidByText := true, laidKinds := [.data, .pinned], laidTests := true, laidLooks := .later }
def FnValidCutsUptoCardSaid : Prop := Claim7.holds Tryd.pinned (.plain (OpenSpec.upto fnValidCutsSpec)) fnValidCutsUptoCard

/-- THE SECOND FORM's CARD OF 'laws.FnFullOnce'. -/
def fnFullOnceUptoCard : Claim7 := { stood := { row := fnFullOnceUptoRow, standIns := [], harness := (true, "93b8130b6ab7f1ab2272982c9c01ecc0714f209dc40fd580aba889276bad7f48"), looks := false }, kinds := [], alts := [], laidByText := true, laidKinds := [.data, .pinned], laidTests := true, laidLooks := .later }
def FnFullOnceUptoCardSaid : Prop := Claim7.holds Tryd.pinned (.plain (OpenSpec.upto fnFullOnceSpec)) fnFullOnceUptoCard
end Rows
end Go.Proofs.YtcbfbccmghdpgaaDoor
