/-
  NARROWER THAN 'FOR EVERY INPUT', by the rows' own cells (each row's printed sentence says how): FnErrorsCounted: laid · FnAppendInTwo: laid · FnManyParts: laid · FnByteCuts: laid · FnSizesTellUnits: laid · FnTextLengths: laid · FnPutTogether: laid · FnHalvesAsRunes: laid · FnBackwardsAcross: laid · FnBytesAcross: laid · FnUnitsAcross: laid · FnManyPieces: laid.
  DERIVED. THE GIVEN ROWS OF THIS SEAT. 12 by the template 'for every input the law returns true; each argument reads behind the call as it read before'; 0 by the template 'total and deterministic' (their statements: YtcbfbccmghdpgabDoorTotals.lean).
  GIVEN WITH THE SEED: the statements are not yours to turn. If you find one false, say at which input.
  Laid BY PROGRAM, IN A SANDBOX (cutbox-rows.mjs): the forced cells as the released guide's own fill.sh prints them over the translation ccf2cc0b68e43dad… (all of the seat's roots in one cut). By AI agents, Wed Nov 11 2026. No macro, syntax, notation, axiom, sorry.
-/
import Derived.Test.YtcbfbccmghdpgabDoorChecked
import GoSem.PinnedTables
import GoSem.Claim
import GoSem.ClaimJoined
import GoSem.ClaimMapViews
import Derived.JoinedTies
import Derived.KernelRfl
namespace Go.Proofs.YtcbfbccmghdpgabDoor
/- THE CELL 'sum', in the pinned program and in every row, IS THE sha256 OF THE DUMP (.gsa) THAT YtcbfbccmghdpgabDoorProg.lean LOADS. Nothing in Lean hashes anything: it is a label: what it is worth is what the hold of that sum in a sandbox is worth. -/
noncomputable def Tryd.pinned : Pinned := { name := "ytcbfbccmghdpgabdoor", sum := "ccf2cc0b68e43dad1fdc0e322d4dd845fd5056fc1cd2c3295767b931128cb986", checked := Tryd.checked }
namespace Rows
def none {H : Type} : Left H := { results := [], args := [] }

/- WHAT THE LISTED PACKAGE-LEVEL VARIABLES READ AS WHEN THE CALL BEGINS. Each datum BY PROGRAM (the guide's laid-datum.mjs) off the statement by which the dump's own 'gosem.cut.vars' lays the variable. In a bare row this is a premise. The card (YtcbfbccmghdpgabDoorCards.lean) ties it to the program's text. -/
def laid_unicode_utf8_acceptRanges {H : Type} : DataW H := .agg [.agg [.lit (.int .u8 128), .lit (.int .u8 191)], .agg [.lit (.int .u8 160), .lit (.int .u8 191)], .agg [.lit (.int .u8 128), .lit (.int .u8 159)], .agg [.lit (.int .u8 144), .lit (.int .u8 191)], .agg [.lit (.int .u8 128), .lit (.int .u8 143)], .agg [.lit (.int .u8 0), .lit (.int .u8 0)], .agg [.lit (.int .u8 0), .lit (.int .u8 0)], .agg [.lit (.int .u8 0), .lit (.int .u8 0)], .agg [.lit (.int .u8 0), .lit (.int .u8 0)], .agg [.lit (.int .u8 0), .lit (.int .u8 0)], .agg [.lit (.int .u8 0), .lit (.int .u8 0)], .agg [.lit (.int .u8 0), .lit (.int .u8 0)], .agg [.lit (.int .u8 0), .lit (.int .u8 0)], .agg [.lit (.int .u8 0), .lit (.int .u8 0)], .agg [.lit (.int .u8 0), .lit (.int .u8 0)], .agg [.lit (.int .u8 0), .lit (.int .u8 0)]]
/-- One of Go's own tables, pinned by name: the form's constant. -/
def laid_unicode_utf8_first : DataW Unit := Go.Pinned.utf8First

/-- 'laws.FnErrorsCounted': WHATEVER THE INPUT: true; the input reads as it did. -/
def fnErrorsCountedSpec : ChangeSpec := { name := "fnErrorsCounted", fn := fun _ => fun
  | [d] => { results := [.lit (.bool true)], args := [d] }
  | _ => none }
def fnErrorsCountedRow : OpenClaim := { program := "ytcbfbccmghdpgabdoor", sum := "ccf2cc0b68e43dad1fdc0e322d4dd845fd5056fc1cd2c3295767b931128cb986", func := "loop.example/lib-g01426/laws.FnErrorsCounted", spec := "fnErrorsCounted", named := ["unicode/utf8.first", "unicode/utf8.acceptRanges"], apart := false, laid := [("unicode/utf8.acceptRanges", laid_unicode_utf8_acceptRanges), ("unicode/utf8.first", laid_unicode_utf8_first)] }
def FnErrorsCountedSaid : Prop := fnErrorsCountedRow.holds Tryd.pinned (OpenSpec.ofChange fnErrorsCountedSpec)

/-- ITS FALSE NEIGHBOUR: 'it returns false'. Refute it at one input. -/
def fnErrorsCountedWrong : ChangeSpec := { name := "fnErrorsCounted", fn := fun _ => fun
  | [d] => { results := [.lit (.bool false)], args := [d] }
  | _ => none }
def FnErrorsCountedWrongFalsely : Prop := fnErrorsCountedRow.holds Tryd.pinned (OpenSpec.ofChange fnErrorsCountedWrong)

/-- 'laws.FnAppendInTwo': WHATEVER THE INPUT: true; the input reads as it did. -/
def fnAppendInTwoSpec : ChangeSpec := { name := "fnAppendInTwo", fn := fun _ => fun
  | [d1, d2, d3] => { results := [.lit (.bool true)], args := [d1, d2, d3] }
  | _ => none }
def fnAppendInTwoRow : OpenClaim := { program := "ytcbfbccmghdpgabdoor", sum := "ccf2cc0b68e43dad1fdc0e322d4dd845fd5056fc1cd2c3295767b931128cb986", func := "loop.example/lib-g01426/laws.FnAppendInTwo", spec := "fnAppendInTwo", named := ["unicode/utf8.first", "unicode/utf8.acceptRanges"], apart := false, laid := [("unicode/utf8.acceptRanges", laid_unicode_utf8_acceptRanges), ("unicode/utf8.first", laid_unicode_utf8_first)] }
def FnAppendInTwoSaid : Prop := fnAppendInTwoRow.holds Tryd.pinned (OpenSpec.ofChange fnAppendInTwoSpec)

/-- ITS FALSE NEIGHBOUR: 'it returns false'. Refute it at one input. -/
def fnAppendInTwoWrong : ChangeSpec := { name := "fnAppendInTwo", fn := fun _ => fun
  | [d1, d2, d3] => { results := [.lit (.bool false)], args := [d1, d2, d3] }
  | _ => none }
def FnAppendInTwoWrongFalsely : Prop := fnAppendInTwoRow.holds Tryd.pinned (OpenSpec.ofChange fnAppendInTwoWrong)

/-- 'laws.FnManyParts': WHATEVER THE INPUT: true; the input reads as it did. -/
def fnManyPartsSpec : ChangeSpec := { name := "fnManyParts", fn := fun _ => fun
  | [d1, d2] => { results := [.lit (.bool true)], args := [d1, d2] }
  | _ => none }
def fnManyPartsRow : OpenClaim := { program := "ytcbfbccmghdpgabdoor", sum := "ccf2cc0b68e43dad1fdc0e322d4dd845fd5056fc1cd2c3295767b931128cb986", func := "loop.example/lib-g01426/laws.FnManyParts", spec := "fnManyParts", named := ["unicode/utf8.first", "unicode/utf8.acceptRanges"], apart := false, laid := [("unicode/utf8.acceptRanges", laid_unicode_utf8_acceptRanges), ("unicode/utf8.first", laid_unicode_utf8_first)] }
def FnManyPartsSaid : Prop := fnManyPartsRow.holds Tryd.pinned (OpenSpec.ofChange fnManyPartsSpec)

/-- ITS FALSE NEIGHBOUR: 'it returns false'. Refute it at one input. -/
def fnManyPartsWrong : ChangeSpec := { name := "fnManyParts", fn := fun _ => fun
  | [d1, d2] => { results := [.lit (.bool false)], args := [d1, d2] }
  | _ => none }
def FnManyPartsWrongFalsely : Prop := fnManyPartsRow.holds Tryd.pinned (OpenSpec.ofChange fnManyPartsWrong)

/-- 'laws.FnByteCuts': WHATEVER THE INPUT: true; the input reads as it did. -/
def fnByteCutsSpec : ChangeSpec := { name := "fnByteCuts", fn := fun _ => fun
  | [d1, d2] => { results := [.lit (.bool true)], args := [d1, d2] }
  | _ => none }
def fnByteCutsRow : OpenClaim := { program := "ytcbfbccmghdpgabdoor", sum := "ccf2cc0b68e43dad1fdc0e322d4dd845fd5056fc1cd2c3295767b931128cb986", func := "loop.example/lib-g01426/laws.FnByteCuts", spec := "fnByteCuts", named := ["unicode/utf8.first", "unicode/utf8.acceptRanges"], apart := false, laid := [("unicode/utf8.acceptRanges", laid_unicode_utf8_acceptRanges), ("unicode/utf8.first", laid_unicode_utf8_first)] }
def FnByteCutsSaid : Prop := fnByteCutsRow.holds Tryd.pinned (OpenSpec.ofChange fnByteCutsSpec)

/-- ITS FALSE NEIGHBOUR: 'it returns false'. Refute it at one input. -/
def fnByteCutsWrong : ChangeSpec := { name := "fnByteCuts", fn := fun _ => fun
  | [d1, d2] => { results := [.lit (.bool false)], args := [d1, d2] }
  | _ => none }
def FnByteCutsWrongFalsely : Prop := fnByteCutsRow.holds Tryd.pinned (OpenSpec.ofChange fnByteCutsWrong)

/-- 'laws.FnSizesTellUnits': WHATEVER THE INPUT: true; the input reads as it did. -/
def fnSizesTellUnitsSpec : ChangeSpec := { name := "fnSizesTellUnits", fn := fun _ => fun
  | [d] => { results := [.lit (.bool true)], args := [d] }
  | _ => none }
def fnSizesTellUnitsRow : OpenClaim := { program := "ytcbfbccmghdpgabdoor", sum := "ccf2cc0b68e43dad1fdc0e322d4dd845fd5056fc1cd2c3295767b931128cb986", func := "loop.example/lib-g01426/laws.FnSizesTellUnits", spec := "fnSizesTellUnits", named := ["unicode/utf8.first", "unicode/utf8.acceptRanges"], apart := false, laid := [("unicode/utf8.acceptRanges", laid_unicode_utf8_acceptRanges), ("unicode/utf8.first", laid_unicode_utf8_first)] }
def FnSizesTellUnitsSaid : Prop := fnSizesTellUnitsRow.holds Tryd.pinned (OpenSpec.ofChange fnSizesTellUnitsSpec)

/-- ITS FALSE NEIGHBOUR: 'it returns false'. Refute it at one input. -/
def fnSizesTellUnitsWrong : ChangeSpec := { name := "fnSizesTellUnits", fn := fun _ => fun
  | [d] => { results := [.lit (.bool false)], args := [d] }
  | _ => none }
def FnSizesTellUnitsWrongFalsely : Prop := fnSizesTellUnitsRow.holds Tryd.pinned (OpenSpec.ofChange fnSizesTellUnitsWrong)

/-- 'laws.FnTextLengths': WHATEVER THE INPUT: true; the input reads as it did. -/
def fnTextLengthsSpec : ChangeSpec := { name := "fnTextLengths", fn := fun _ => fun
  | [d] => { results := [.lit (.bool true)], args := [d] }
  | _ => none }
def fnTextLengthsRow : OpenClaim := { program := "ytcbfbccmghdpgabdoor", sum := "ccf2cc0b68e43dad1fdc0e322d4dd845fd5056fc1cd2c3295767b931128cb986", func := "loop.example/lib-g01426/laws.FnTextLengths", spec := "fnTextLengths", named := ["unicode/utf8.first", "unicode/utf8.acceptRanges"], apart := false, laid := [("unicode/utf8.acceptRanges", laid_unicode_utf8_acceptRanges), ("unicode/utf8.first", laid_unicode_utf8_first)] }
def FnTextLengthsSaid : Prop := fnTextLengthsRow.holds Tryd.pinned (OpenSpec.ofChange fnTextLengthsSpec)

/-- ITS FALSE NEIGHBOUR: 'it returns false'. Refute it at one input. -/
def fnTextLengthsWrong : ChangeSpec := { name := "fnTextLengths", fn := fun _ => fun
  | [d] => { results := [.lit (.bool false)], args := [d] }
  | _ => none }
def FnTextLengthsWrongFalsely : Prop := fnTextLengthsRow.holds Tryd.pinned (OpenSpec.ofChange fnTextLengthsWrong)

/-- 'laws.FnPutTogether': WHATEVER THE INPUT: true; the input reads as it did. -/
def fnPutTogetherSpec : ChangeSpec := { name := "fnPutTogether", fn := fun _ => fun
  | [d] => { results := [.lit (.bool true)], args := [d] }
  | _ => none }
def fnPutTogetherRow : OpenClaim := { program := "ytcbfbccmghdpgabdoor", sum := "ccf2cc0b68e43dad1fdc0e322d4dd845fd5056fc1cd2c3295767b931128cb986", func := "loop.example/lib-g01426/laws.FnPutTogether", spec := "fnPutTogether", named := ["unicode/utf8.first", "unicode/utf8.acceptRanges"], apart := false, laid := [("unicode/utf8.acceptRanges", laid_unicode_utf8_acceptRanges), ("unicode/utf8.first", laid_unicode_utf8_first)] }
def FnPutTogetherSaid : Prop := fnPutTogetherRow.holds Tryd.pinned (OpenSpec.ofChange fnPutTogetherSpec)

/-- ITS FALSE NEIGHBOUR: 'it returns false'. Refute it at one input. -/
def fnPutTogetherWrong : ChangeSpec := { name := "fnPutTogether", fn := fun _ => fun
  | [d] => { results := [.lit (.bool false)], args := [d] }
  | _ => none }
def FnPutTogetherWrongFalsely : Prop := fnPutTogetherRow.holds Tryd.pinned (OpenSpec.ofChange fnPutTogetherWrong)

/-- 'laws.FnHalvesAsRunes': WHATEVER THE INPUT: true; the input reads as it did. -/
def fnHalvesAsRunesSpec : ChangeSpec := { name := "fnHalvesAsRunes", fn := fun _ => fun
  | [d] => { results := [.lit (.bool true)], args := [d] }
  | _ => none }
def fnHalvesAsRunesRow : OpenClaim := { program := "ytcbfbccmghdpgabdoor", sum := "ccf2cc0b68e43dad1fdc0e322d4dd845fd5056fc1cd2c3295767b931128cb986", func := "loop.example/lib-g01426/laws.FnHalvesAsRunes", spec := "fnHalvesAsRunes", named := ["unicode/utf8.first", "unicode/utf8.acceptRanges"], apart := false, laid := [("unicode/utf8.acceptRanges", laid_unicode_utf8_acceptRanges), ("unicode/utf8.first", laid_unicode_utf8_first)] }
def FnHalvesAsRunesSaid : Prop := fnHalvesAsRunesRow.holds Tryd.pinned (OpenSpec.ofChange fnHalvesAsRunesSpec)

/-- ITS FALSE NEIGHBOUR: 'it returns false'. Refute it at one input. -/
def fnHalvesAsRunesWrong : ChangeSpec := { name := "fnHalvesAsRunes", fn := fun _ => fun
  | [d] => { results := [.lit (.bool false)], args := [d] }
  | _ => none }
def FnHalvesAsRunesWrongFalsely : Prop := fnHalvesAsRunesRow.holds Tryd.pinned (OpenSpec.ofChange fnHalvesAsRunesWrong)

/-- 'laws.FnBackwardsAcross': WHATEVER THE INPUT: true; the input reads as it did. -/
def fnBackwardsAcrossSpec : ChangeSpec := { name := "fnBackwardsAcross", fn := fun _ => fun
  | [d] => { results := [.lit (.bool true)], args := [d] }
  | _ => none }
def fnBackwardsAcrossRow : OpenClaim := { program := "ytcbfbccmghdpgabdoor", sum := "ccf2cc0b68e43dad1fdc0e322d4dd845fd5056fc1cd2c3295767b931128cb986", func := "loop.example/lib-g01426/laws.FnBackwardsAcross", spec := "fnBackwardsAcross", named := ["unicode/utf8.first", "unicode/utf8.acceptRanges"], apart := false, laid := [("unicode/utf8.acceptRanges", laid_unicode_utf8_acceptRanges), ("unicode/utf8.first", laid_unicode_utf8_first)] }
def FnBackwardsAcrossSaid : Prop := fnBackwardsAcrossRow.holds Tryd.pinned (OpenSpec.ofChange fnBackwardsAcrossSpec)

/-- ITS FALSE NEIGHBOUR: 'it returns false'. Refute it at one input. -/
def fnBackwardsAcrossWrong : ChangeSpec := { name := "fnBackwardsAcross", fn := fun _ => fun
  | [d] => { results := [.lit (.bool false)], args := [d] }
  | _ => none }
def FnBackwardsAcrossWrongFalsely : Prop := fnBackwardsAcrossRow.holds Tryd.pinned (OpenSpec.ofChange fnBackwardsAcrossWrong)

/-- 'laws.FnBytesAcross': WHATEVER THE INPUT: true; the input reads as it did. -/
def fnBytesAcrossSpec : ChangeSpec := { name := "fnBytesAcross", fn := fun _ => fun
  | [d] => { results := [.lit (.bool true)], args := [d] }
  | _ => none }
def fnBytesAcrossRow : OpenClaim := { program := "ytcbfbccmghdpgabdoor", sum := "ccf2cc0b68e43dad1fdc0e322d4dd845fd5056fc1cd2c3295767b931128cb986", func := "loop.example/lib-g01426/laws.FnBytesAcross", spec := "fnBytesAcross", named := ["unicode/utf8.first", "unicode/utf8.acceptRanges"], apart := false, laid := [("unicode/utf8.acceptRanges", laid_unicode_utf8_acceptRanges), ("unicode/utf8.first", laid_unicode_utf8_first)] }
def FnBytesAcrossSaid : Prop := fnBytesAcrossRow.holds Tryd.pinned (OpenSpec.ofChange fnBytesAcrossSpec)

/-- ITS FALSE NEIGHBOUR: 'it returns false'. Refute it at one input. -/
def fnBytesAcrossWrong : ChangeSpec := { name := "fnBytesAcross", fn := fun _ => fun
  | [d] => { results := [.lit (.bool false)], args := [d] }
  | _ => none }
def FnBytesAcrossWrongFalsely : Prop := fnBytesAcrossRow.holds Tryd.pinned (OpenSpec.ofChange fnBytesAcrossWrong)

/-- 'laws.FnUnitsAcross': WHATEVER THE INPUT: true; the input reads as it did. -/
def fnUnitsAcrossSpec : ChangeSpec := { name := "fnUnitsAcross", fn := fun _ => fun
  | [d] => { results := [.lit (.bool true)], args := [d] }
  | _ => none }
def fnUnitsAcrossRow : OpenClaim := { program := "ytcbfbccmghdpgabdoor", sum := "ccf2cc0b68e43dad1fdc0e322d4dd845fd5056fc1cd2c3295767b931128cb986", func := "loop.example/lib-g01426/laws.FnUnitsAcross", spec := "fnUnitsAcross", named := ["unicode/utf8.first", "unicode/utf8.acceptRanges"], apart := false, laid := [("unicode/utf8.acceptRanges", laid_unicode_utf8_acceptRanges), ("unicode/utf8.first", laid_unicode_utf8_first)] }
def FnUnitsAcrossSaid : Prop := fnUnitsAcrossRow.holds Tryd.pinned (OpenSpec.ofChange fnUnitsAcrossSpec)

/-- ITS FALSE NEIGHBOUR: 'it returns false'. Refute it at one input. -/
def fnUnitsAcrossWrong : ChangeSpec := { name := "fnUnitsAcross", fn := fun _ => fun
  | [d] => { results := [.lit (.bool false)], args := [d] }
  | _ => none }
def FnUnitsAcrossWrongFalsely : Prop := fnUnitsAcrossRow.holds Tryd.pinned (OpenSpec.ofChange fnUnitsAcrossWrong)

/-- 'laws.FnManyPieces': WHATEVER THE INPUT: true; the input reads as it did. -/
def fnManyPiecesSpec : ChangeSpec := { name := "fnManyPieces", fn := fun _ => fun
  | [d1, d2] => { results := [.lit (.bool true)], args := [d1, d2] }
  | _ => none }
def fnManyPiecesRow : OpenClaim := { program := "ytcbfbccmghdpgabdoor", sum := "ccf2cc0b68e43dad1fdc0e322d4dd845fd5056fc1cd2c3295767b931128cb986", func := "loop.example/lib-g01426/laws.FnManyPieces", spec := "fnManyPieces", named := ["unicode/utf8.first", "unicode/utf8.acceptRanges"], apart := false, laid := [("unicode/utf8.acceptRanges", laid_unicode_utf8_acceptRanges), ("unicode/utf8.first", laid_unicode_utf8_first)] }
def FnManyPiecesSaid : Prop := fnManyPiecesRow.holds Tryd.pinned (OpenSpec.ofChange fnManyPiecesSpec)

/-- ITS FALSE NEIGHBOUR: 'it returns false'. Refute it at one input. -/
def fnManyPiecesWrong : ChangeSpec := { name := "fnManyPieces", fn := fun _ => fun
  | [d1, d2] => { results := [.lit (.bool false)], args := [d1, d2] }
  | _ => none }
def FnManyPiecesWrongFalsely : Prop := fnManyPiecesRow.holds Tryd.pinned (OpenSpec.ofChange fnManyPiecesWrong)

/- THE SECOND FORM. 'bulk': how many values and letters a reading holds, each counted each time it is reached (what is shared counts as often as it is met; a slice's spare places count too). A statement '..UptoSaid' is the law's where the arguments, and the package variables that the reading takes, are together of bulk at most 1048576: NARROWER than '..Said'. Prove '..Said' where nothing that the law and all that it calls make is longer than what came in: it says more and counts as full. Else prove '..UptoSaid'. A law counts once. -/
mutual
def uptoBulk {H : Type} : DataW H → Nat
  | .lit (.string bytes) => bytes.length + 1
  | .lit _ => 1
  | .nil => 1
  | .ptr d => uptoBulk d + 1
  | .slice elems spare => uptoBulkAll elems + uptoBulkAll spare + 1
  | .agg parts => uptoBulkAll parts + 1
  | .iface _ d => uptoBulk d + 1
  | .map entries => uptoBulkEntries entries + 1
  | .held _ => 1
def uptoBulkAll {H : Type} : List (DataW H) → Nat
  | [] => 0
  | d :: r => uptoBulk d + uptoBulkAll r
def uptoBulkEntries {H : Type} : List (Lit × DataW H) → Nat
  | [] => 0
  | x :: r => uptoBulkEntry x + uptoBulkEntries r
def uptoBulkEntry {H : Type} : Lit × DataW H → Nat
  | (.string bytes, d) => bytes.length + uptoBulk d + 1
  | (_, d) => uptoBulk d + 1
 end
def uptoSmall : (H : Type) → List (DataW H) → Bool := fun _ ds => decide (uptoBulkAll ds ≤ 1048576)
def OpenSpec.upto (s : _root_.Go.ChangeSpec) : _root_.Go.OpenSpec := { _root_.Go.OpenSpec.ofChange s with cond := some uptoSmall }

/-- 'laws.FnErrorsCounted', WHERE WHAT IT READS IS OF BULK AT MOST 1048576: true; the input reads as it did. -/
def fnErrorsCountedUptoRow : OpenClaim := { program := "ytcbfbccmghdpgabdoor", sum := "ccf2cc0b68e43dad1fdc0e322d4dd845fd5056fc1cd2c3295767b931128cb986", func := "loop.example/lib-g01426/laws.FnErrorsCounted", spec := "fnErrorsCounted", named := ["unicode/utf8.first", "unicode/utf8.acceptRanges"], apart := false, laid := [("unicode/utf8.acceptRanges", laid_unicode_utf8_acceptRanges), ("unicode/utf8.first", laid_unicode_utf8_first)], narrowed := true }
def FnErrorsCountedUptoSaid : Prop := fnErrorsCountedUptoRow.holds Tryd.pinned (OpenSpec.upto fnErrorsCountedSpec)

/-- 'laws.FnAppendInTwo', WHERE WHAT IT READS IS OF BULK AT MOST 1048576: true; the input reads as it did. -/
def fnAppendInTwoUptoRow : OpenClaim := { program := "ytcbfbccmghdpgabdoor", sum := "ccf2cc0b68e43dad1fdc0e322d4dd845fd5056fc1cd2c3295767b931128cb986", func := "loop.example/lib-g01426/laws.FnAppendInTwo", spec := "fnAppendInTwo", named := ["unicode/utf8.first", "unicode/utf8.acceptRanges"], apart := false, laid := [("unicode/utf8.acceptRanges", laid_unicode_utf8_acceptRanges), ("unicode/utf8.first", laid_unicode_utf8_first)], narrowed := true }
def FnAppendInTwoUptoSaid : Prop := fnAppendInTwoUptoRow.holds Tryd.pinned (OpenSpec.upto fnAppendInTwoSpec)

/-- 'laws.FnManyParts', WHERE WHAT IT READS IS OF BULK AT MOST 1048576: true; the input reads as it did. -/
def fnManyPartsUptoRow : OpenClaim := { program := "ytcbfbccmghdpgabdoor", sum := "ccf2cc0b68e43dad1fdc0e322d4dd845fd5056fc1cd2c3295767b931128cb986", func := "loop.example/lib-g01426/laws.FnManyParts", spec := "fnManyParts", named := ["unicode/utf8.first", "unicode/utf8.acceptRanges"], apart := false, laid := [("unicode/utf8.acceptRanges", laid_unicode_utf8_acceptRanges), ("unicode/utf8.first", laid_unicode_utf8_first)], narrowed := true }
def FnManyPartsUptoSaid : Prop := fnManyPartsUptoRow.holds Tryd.pinned (OpenSpec.upto fnManyPartsSpec)

/-- 'laws.FnByteCuts', WHERE WHAT IT READS IS OF BULK AT MOST 1048576: true; the input reads as it did. -/
def fnByteCutsUptoRow : OpenClaim := { program := "ytcbfbccmghdpgabdoor", sum := "ccf2cc0b68e43dad1fdc0e322d4dd845fd5056fc1cd2c3295767b931128cb986", func := "loop.example/lib-g01426/laws.FnByteCuts", spec := "fnByteCuts", named := ["unicode/utf8.first", "unicode/utf8.acceptRanges"], apart := false, laid := [("unicode/utf8.acceptRanges", laid_unicode_utf8_acceptRanges), ("unicode/utf8.first", laid_unicode_utf8_first)], narrowed := true }
def FnByteCutsUptoSaid : Prop := fnByteCutsUptoRow.holds Tryd.pinned (OpenSpec.upto fnByteCutsSpec)

/-- 'laws.FnSizesTellUnits', WHERE WHAT IT READS IS OF BULK AT MOST 1048576: true; the input reads as it did. -/
def fnSizesTellUnitsUptoRow : OpenClaim := { program := "ytcbfbccmghdpgabdoor", sum := "ccf2cc0b68e43dad1fdc0e322d4dd845fd5056fc1cd2c3295767b931128cb986", func := "loop.example/lib-g01426/laws.FnSizesTellUnits", spec := "fnSizesTellUnits", named := ["unicode/utf8.first", "unicode/utf8.acceptRanges"], apart := false, laid := [("unicode/utf8.acceptRanges", laid_unicode_utf8_acceptRanges), ("unicode/utf8.first", laid_unicode_utf8_first)], narrowed := true }
def FnSizesTellUnitsUptoSaid : Prop := fnSizesTellUnitsUptoRow.holds Tryd.pinned (OpenSpec.upto fnSizesTellUnitsSpec)

/-- 'laws.FnTextLengths', WHERE WHAT IT READS IS OF BULK AT MOST 1048576: true; the input reads as it did. -/
def fnTextLengthsUptoRow : OpenClaim := { program := "ytcbfbccmghdpgabdoor", sum := "ccf2cc0b68e43dad1fdc0e322d4dd845fd5056fc1cd2c3295767b931128cb986", func := "loop.example/lib-g01426/laws.FnTextLengths", spec := "fnTextLengths", named := ["unicode/utf8.first", "unicode/utf8.acceptRanges"], apart := false, laid := [("unicode/utf8.acceptRanges", laid_unicode_utf8_acceptRanges), ("unicode/utf8.first", laid_unicode_utf8_first)], narrowed := true }
def FnTextLengthsUptoSaid : Prop := fnTextLengthsUptoRow.holds Tryd.pinned (OpenSpec.upto fnTextLengthsSpec)

/-- 'laws.FnPutTogether', WHERE WHAT IT READS IS OF BULK AT MOST 1048576: true; the input reads as it did. -/
def fnPutTogetherUptoRow : OpenClaim := { program := "ytcbfbccmghdpgabdoor", sum := "ccf2cc0b68e43dad1fdc0e322d4dd845fd5056fc1cd2c3295767b931128cb986", func := "loop.example/lib-g01426/laws.FnPutTogether", spec := "fnPutTogether", named := ["unicode/utf8.first", "unicode/utf8.acceptRanges"], apart := false, laid := [("unicode/utf8.acceptRanges", laid_unicode_utf8_acceptRanges), ("unicode/utf8.first", laid_unicode_utf8_first)], narrowed := true }
def FnPutTogetherUptoSaid : Prop := fnPutTogetherUptoRow.holds Tryd.pinned (OpenSpec.upto fnPutTogetherSpec)

/-- 'laws.FnHalvesAsRunes', WHERE WHAT IT READS IS OF BULK AT MOST 1048576: true; the input reads as it did. -/
def fnHalvesAsRunesUptoRow : OpenClaim := { program := "ytcbfbccmghdpgabdoor", sum := "ccf2cc0b68e43dad1fdc0e322d4dd845fd5056fc1cd2c3295767b931128cb986", func := "loop.example/lib-g01426/laws.FnHalvesAsRunes", spec := "fnHalvesAsRunes", named := ["unicode/utf8.first", "unicode/utf8.acceptRanges"], apart := false, laid := [("unicode/utf8.acceptRanges", laid_unicode_utf8_acceptRanges), ("unicode/utf8.first", laid_unicode_utf8_first)], narrowed := true }
def FnHalvesAsRunesUptoSaid : Prop := fnHalvesAsRunesUptoRow.holds Tryd.pinned (OpenSpec.upto fnHalvesAsRunesSpec)

/-- 'laws.FnBackwardsAcross', WHERE WHAT IT READS IS OF BULK AT MOST 1048576: true; the input reads as it did. -/
def fnBackwardsAcrossUptoRow : OpenClaim := { program := "ytcbfbccmghdpgabdoor", sum := "ccf2cc0b68e43dad1fdc0e322d4dd845fd5056fc1cd2c3295767b931128cb986", func := "loop.example/lib-g01426/laws.FnBackwardsAcross", spec := "fnBackwardsAcross", named := ["unicode/utf8.first", "unicode/utf8.acceptRanges"], apart := false, laid := [("unicode/utf8.acceptRanges", laid_unicode_utf8_acceptRanges), ("unicode/utf8.first", laid_unicode_utf8_first)], narrowed := true }
def FnBackwardsAcrossUptoSaid : Prop := fnBackwardsAcrossUptoRow.holds Tryd.pinned (OpenSpec.upto fnBackwardsAcrossSpec)

/-- 'laws.FnBytesAcross', WHERE WHAT IT READS IS OF BULK AT MOST 1048576: true; the input reads as it did. -/
def fnBytesAcrossUptoRow : OpenClaim := { program := "ytcbfbccmghdpgabdoor", sum := "ccf2cc0b68e43dad1fdc0e322d4dd845fd5056fc1cd2c3295767b931128cb986", func := "loop.example/lib-g01426/laws.FnBytesAcross", spec := "fnBytesAcross", named := ["unicode/utf8.first", "unicode/utf8.acceptRanges"], apart := false, laid := [("unicode/utf8.acceptRanges", laid_unicode_utf8_acceptRanges), ("unicode/utf8.first", laid_unicode_utf8_first)], narrowed := true }
def FnBytesAcrossUptoSaid : Prop := fnBytesAcrossUptoRow.holds Tryd.pinned (OpenSpec.upto fnBytesAcrossSpec)

/-- 'laws.FnUnitsAcross', WHERE WHAT IT READS IS OF BULK AT MOST 1048576: true; the input reads as it did. -/
def fnUnitsAcrossUptoRow : OpenClaim := { program := "ytcbfbccmghdpgabdoor", sum := "ccf2cc0b68e43dad1fdc0e322d4dd845fd5056fc1cd2c3295767b931128cb986", func := "loop.example/lib-g01426/laws.FnUnitsAcross", spec := "fnUnitsAcross", named := ["unicode/utf8.first", "unicode/utf8.acceptRanges"], apart := false, laid := [("unicode/utf8.acceptRanges", laid_unicode_utf8_acceptRanges), ("unicode/utf8.first", laid_unicode_utf8_first)], narrowed := true }
def FnUnitsAcrossUptoSaid : Prop := fnUnitsAcrossUptoRow.holds Tryd.pinned (OpenSpec.upto fnUnitsAcrossSpec)

/-- 'laws.FnManyPieces', WHERE WHAT IT READS IS OF BULK AT MOST 1048576: true; the input reads as it did. -/
def fnManyPiecesUptoRow : OpenClaim := { program := "ytcbfbccmghdpgabdoor", sum := "ccf2cc0b68e43dad1fdc0e322d4dd845fd5056fc1cd2c3295767b931128cb986", func := "loop.example/lib-g01426/laws.FnManyPieces", spec := "fnManyPieces", named := ["unicode/utf8.first", "unicode/utf8.acceptRanges"], apart := false, laid := [("unicode/utf8.acceptRanges", laid_unicode_utf8_acceptRanges), ("unicode/utf8.first", laid_unicode_utf8_first)], narrowed := true }
def FnManyPiecesUptoSaid : Prop := fnManyPiecesUptoRow.holds Tryd.pinned (OpenSpec.upto fnManyPiecesSpec)

end Rows
end Go.Proofs.YtcbfbccmghdpgabDoor
