/-
  DERIVED. GIVEN WITH THE SEED: THE CARDS: each row of YtbjigbhjnmcdgaaDoorRows.lean that lists a variable, with what it lists TIED to the program's text (the seventh form; the later family's looks); each row that meets fmt, with fmt's text TOLD by the authors' own Lean function (tested against real Go, not proved from fmt's source: count such statements apart). THE CARD IS WHAT COUNTS. Prove the row's statement (the work); the ties are given (YtbjigbhjnmcdgaaDoorTie.lean); close each card by the builder's one call (the guide's Derived/Test/ToyasCard.lean, 'card_holds'). Laid BY PROGRAM, IN A SANDBOX (cutbox-door.mjs). By AI agents, Wed Nov 11 2026. No macro, syntax, notation, axiom, sorry.
-/
import Derived.Test.YtbjigbhjnmcdgaaDoorRows
import GoSem.ClaimSeven
namespace Go.Proofs.YtbjigbhjnmcdgaaDoor
namespace Rows

/-- THE TIED CARD OF 'laws.FnBothEnds'. -/
def fnBothEndsCard : Claim7 := { stood := { row := fnBothEndsRow, standIns := [], harness := (true, "833f0d27657e669a5cfec242d588a97df3c583ecfd2fe715cdb995f3988e3522"), looks := false }, kinds := [], alts := [], laidByText := true, laidKinds := [.data, .pinned], laidTests := true, laidLooks := .later }
def FnBothEndsCardSaid : Prop := Claim7.holds Tryd.pinned (.plain (OpenSpec.ofChange fnBothEndsSpec)) fnBothEndsCard

/-- THE TIED CARD OF 'laws.FnValidCuts'. -/
def fnValidCutsCard : Claim7 := { stood := { row := fnValidCutsRow, standIns := [], harness := (true, "833f0d27657e669a5cfec242d588a97df3c583ecfd2fe715cdb995f3988e3522"), looks := false }, kinds := [], alts := [], laidByText := true, laidKinds := [.data, .pinned], laidTests := true, laidLooks := .later }
def FnValidCutsCardSaid : Prop := Claim7.holds Tryd.pinned (.plain (OpenSpec.ofChange fnValidCutsSpec)) fnValidCutsCard

/-- THE TIED CARD OF 'laws.FnManyParts'. -/
def fnManyPartsCard : Claim7 := { stood := { row := fnManyPartsRow, standIns := [], harness := (true, "833f0d27657e669a5cfec242d588a97df3c583ecfd2fe715cdb995f3988e3522"), looks := false }, kinds := [], alts := [], laidByText := true, laidKinds := [.data, .pinned], laidTests := true, laidLooks := .later }
def FnManyPartsCardSaid : Prop := Claim7.holds Tryd.pinned (.plain (OpenSpec.ofChange fnManyPartsSpec)) fnManyPartsCard

/-- THE TIED CARD OF 'laws.FnPutTogether'. -/
def fnPutTogetherCard : Claim7 := { stood := { row := fnPutTogetherRow, standIns := [], harness := (true, "833f0d27657e669a5cfec242d588a97df3c583ecfd2fe715cdb995f3988e3522"), looks := false }, kinds := [], alts := [], laidByText := true, laidKinds := [.data, .pinned], laidTests := true, laidLooks := .later }
def FnPutTogetherCardSaid : Prop := Claim7.holds Tryd.pinned (.plain (OpenSpec.ofChange fnPutTogetherSpec)) fnPutTogetherCard

/-- THE SECOND FORM's CARD OF 'laws.FnBothEnds'. -/
def fnBothEndsUptoCard : Claim7 := { stood := { row := fnBothEndsUptoRow, standIns := [], harness := (true, "833f0d27657e669a5cfec242d588a97df3c583ecfd2fe715cdb995f3988e3522"), looks := false }, kinds := [], alts := [], laidByText := true, laidKinds := [.data, .pinned], laidTests := true, laidLooks := .later }
def FnBothEndsUptoCardSaid : Prop := Claim7.holds Tryd.pinned (.plain (OpenSpec.upto fnBothEndsSpec)) fnBothEndsUptoCard

/-- THE SECOND FORM's CARD OF 'laws.FnValidCuts'. -/
def fnValidCutsUptoCard : Claim7 := { stood := { row := fnValidCutsUptoRow, standIns := [], harness := (true, "833f0d27657e669a5cfec242d588a97df3c583ecfd2fe715cdb995f3988e3522"), looks := false }, kinds := [], alts := [], laidByText := true, laidKinds := [.data, .pinned], laidTests := true, laidLooks := .later }
def FnValidCutsUptoCardSaid : Prop := Claim7.holds Tryd.pinned (.plain (OpenSpec.upto fnValidCutsSpec)) fnValidCutsUptoCard

/-- THE SECOND FORM's CARD OF 'laws.FnManyParts'. -/
def fnManyPartsUptoCard : Claim7 := { stood := { row := fnManyPartsUptoRow, standIns := [], harness := (true, "833f0d27657e669a5cfec242d588a97df3c583ecfd2fe715cdb995f3988e3522"), looks := false }, kinds := [], alts := [], laidByText := true, laidKinds := [.data, .pinned], laidTests := true, laidLooks := .later }
def FnManyPartsUptoCardSaid : Prop := Claim7.holds Tryd.pinned (.plain (OpenSpec.upto fnManyPartsSpec)) fnManyPartsUptoCard

/-- THE SECOND FORM's CARD OF 'laws.FnPutTogether'. -/
def fnPutTogetherUptoCard : Claim7 := { stood := { row := fnPutTogetherUptoRow, standIns := [], harness := (true, "833f0d27657e669a5cfec242d588a97df3c583ecfd2fe715cdb995f3988e3522"), looks := false }, kinds := [], alts := [], laidByText := true, laidKinds := [.data, .pinned], laidTests := true, laidLooks := .later }
def FnPutTogetherUptoCardSaid : Prop := Claim7.holds Tryd.pinned (.plain (OpenSpec.upto fnPutTogetherSpec)) fnPutTogetherUptoCard
end Rows
end Go.Proofs.YtbjigbhjnmcdgaaDoor
