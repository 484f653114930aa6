/-
  NARROWER THAN 'FOR EVERY INPUT', by the rows' own cells (each row's printed sentence says how): FnRoadsScript: laid · FnFromAnywhere: laid · FnBothEnds: laid · FnPlacesAcross: laid · FnFullAtCuts: laid · FnExactDecodeScript: laid · FnScriptIsReference: laid · FnFurtherByte: laid · FnLostBytes: laid · FnOtherByte: laid · FnValidCuts: laid · FnFullOnce: laid.
  DERIVED. THE GIVEN ROWS OF THIS SEAT. 12 by the template 'for every input the law returns true; each argument reads behind the call as it read before'; 0 by the template 'total and deterministic' (their statements: YtcbfbccmghdpgaaDoorTotals.lean).
  GIVEN WITH THE SEED: the statements are not yours to turn. If you find one false, say at which input.
  Laid BY PROGRAM, IN A SANDBOX (cutbox-rows.mjs): the forced cells as the released guide's own fill.sh prints them over the translation 000b660edeebdb0d… (all of the seat's roots in one cut). By AI agents, Wed Nov 11 2026. No macro, syntax, notation, axiom, sorry.
-/
import Derived.Test.YtcbfbccmghdpgaaDoorChecked
import GoSem.PinnedTables
import GoSem.Claim
import GoSem.ClaimJoined
import GoSem.ClaimMapViews
import Derived.JoinedTies
import Derived.KernelRfl
namespace Go.Proofs.YtcbfbccmghdpgaaDoor
/- THE CELL 'sum', in the pinned program and in every row, IS THE sha256 OF THE DUMP (.gsa) THAT YtcbfbccmghdpgaaDoorProg.lean LOADS. Nothing in Lean hashes anything: it is a label: what it is worth is what the hold of that sum in a sandbox is worth. -/
noncomputable def Tryd.pinned : Pinned := { name := "ytcbfbccmghdpgaadoor", sum := "000b660edeebdb0d4a203001690b27caec5708d60d16f1b0217aaecd51b8a6dd", checked := Tryd.checked }
namespace Rows
def none {H : Type} : Left H := { results := [], args := [] }

/- WHAT THE LISTED PACKAGE-LEVEL VARIABLES READ AS WHEN THE CALL BEGINS. Each datum BY PROGRAM (the guide's laid-datum.mjs) off the statement by which the dump's own 'gosem.cut.vars' lays the variable. In a bare row this is a premise. The card (YtcbfbccmghdpgaaDoorCards.lean) ties it to the program's text. -/
def laid_unicode_utf8_acceptRanges {H : Type} : DataW H := .agg [.agg [.lit (.int .u8 128), .lit (.int .u8 191)], .agg [.lit (.int .u8 160), .lit (.int .u8 191)], .agg [.lit (.int .u8 128), .lit (.int .u8 159)], .agg [.lit (.int .u8 144), .lit (.int .u8 191)], .agg [.lit (.int .u8 128), .lit (.int .u8 143)], .agg [.lit (.int .u8 0), .lit (.int .u8 0)], .agg [.lit (.int .u8 0), .lit (.int .u8 0)], .agg [.lit (.int .u8 0), .lit (.int .u8 0)], .agg [.lit (.int .u8 0), .lit (.int .u8 0)], .agg [.lit (.int .u8 0), .lit (.int .u8 0)], .agg [.lit (.int .u8 0), .lit (.int .u8 0)], .agg [.lit (.int .u8 0), .lit (.int .u8 0)], .agg [.lit (.int .u8 0), .lit (.int .u8 0)], .agg [.lit (.int .u8 0), .lit (.int .u8 0)], .agg [.lit (.int .u8 0), .lit (.int .u8 0)], .agg [.lit (.int .u8 0), .lit (.int .u8 0)]]
/-- One of Go's own tables, pinned by name: the form's constant. -/
def laid_unicode_utf8_first : DataW Unit := Go.Pinned.utf8First

/-- 'laws.FnRoadsScript': WHATEVER THE INPUT: true; the input reads as it did. -/
def fnRoadsScriptSpec : ChangeSpec := { name := "fnRoadsScript", fn := fun _ => fun
  | [d1, d2] => { results := [.lit (.bool true)], args := [d1, d2] }
  | _ => none }
def fnRoadsScriptRow : OpenClaim := { program := "ytcbfbccmghdpgaadoor", sum := "000b660edeebdb0d4a203001690b27caec5708d60d16f1b0217aaecd51b8a6dd", func := "loop.example/lib-g01426/laws.FnRoadsScript", spec := "fnRoadsScript", named := ["unicode/utf8.first", "unicode/utf8.acceptRanges"], apart := false, laid := [("unicode/utf8.acceptRanges", laid_unicode_utf8_acceptRanges), ("unicode/utf8.first", laid_unicode_utf8_first)] }
def FnRoadsScriptSaid : Prop := fnRoadsScriptRow.holds Tryd.pinned (OpenSpec.ofChange fnRoadsScriptSpec)

/-- ITS FALSE NEIGHBOUR: 'it returns false'. Refute it at one input. -/
def fnRoadsScriptWrong : ChangeSpec := { name := "fnRoadsScript", fn := fun _ => fun
  | [d1, d2] => { results := [.lit (.bool false)], args := [d1, d2] }
  | _ => none }
def FnRoadsScriptWrongFalsely : Prop := fnRoadsScriptRow.holds Tryd.pinned (OpenSpec.ofChange fnRoadsScriptWrong)

/-- 'laws.FnFromAnywhere': WHATEVER THE INPUT: true; the input reads as it did. -/
def fnFromAnywhereSpec : ChangeSpec := { name := "fnFromAnywhere", fn := fun _ => fun
  | [d1, d2] => { results := [.lit (.bool true)], args := [d1, d2] }
  | _ => none }
def fnFromAnywhereRow : OpenClaim := { program := "ytcbfbccmghdpgaadoor", sum := "000b660edeebdb0d4a203001690b27caec5708d60d16f1b0217aaecd51b8a6dd", func := "loop.example/lib-g01426/laws.FnFromAnywhere", spec := "fnFromAnywhere", named := ["unicode/utf8.first", "unicode/utf8.acceptRanges"], apart := false, laid := [("unicode/utf8.acceptRanges", laid_unicode_utf8_acceptRanges), ("unicode/utf8.first", laid_unicode_utf8_first)] }
def FnFromAnywhereSaid : Prop := fnFromAnywhereRow.holds Tryd.pinned (OpenSpec.ofChange fnFromAnywhereSpec)

/-- ITS FALSE NEIGHBOUR: 'it returns false'. Refute it at one input. -/
def fnFromAnywhereWrong : ChangeSpec := { name := "fnFromAnywhere", fn := fun _ => fun
  | [d1, d2] => { results := [.lit (.bool false)], args := [d1, d2] }
  | _ => none }
def FnFromAnywhereWrongFalsely : Prop := fnFromAnywhereRow.holds Tryd.pinned (OpenSpec.ofChange fnFromAnywhereWrong)

/-- 'laws.FnBothEnds': WHATEVER THE INPUT: true; the input reads as it did. -/
def fnBothEndsSpec : ChangeSpec := { name := "fnBothEnds", fn := fun _ => fun
  | [d1, d2] => { results := [.lit (.bool true)], args := [d1, d2] }
  | _ => none }
def fnBothEndsRow : OpenClaim := { program := "ytcbfbccmghdpgaadoor", sum := "000b660edeebdb0d4a203001690b27caec5708d60d16f1b0217aaecd51b8a6dd", func := "loop.example/lib-g01426/laws.FnBothEnds", spec := "fnBothEnds", named := ["unicode/utf8.first", "unicode/utf8.acceptRanges"], apart := false, laid := [("unicode/utf8.acceptRanges", laid_unicode_utf8_acceptRanges), ("unicode/utf8.first", laid_unicode_utf8_first)] }
def FnBothEndsSaid : Prop := fnBothEndsRow.holds Tryd.pinned (OpenSpec.ofChange fnBothEndsSpec)

/-- ITS FALSE NEIGHBOUR: 'it returns false'. Refute it at one input. -/
def fnBothEndsWrong : ChangeSpec := { name := "fnBothEnds", fn := fun _ => fun
  | [d1, d2] => { results := [.lit (.bool false)], args := [d1, d2] }
  | _ => none }
def FnBothEndsWrongFalsely : Prop := fnBothEndsRow.holds Tryd.pinned (OpenSpec.ofChange fnBothEndsWrong)

/-- 'laws.FnPlacesAcross': WHATEVER THE INPUT: true; the input reads as it did. -/
def fnPlacesAcrossSpec : ChangeSpec := { name := "fnPlacesAcross", fn := fun _ => fun
  | [d] => { results := [.lit (.bool true)], args := [d] }
  | _ => none }
def fnPlacesAcrossRow : OpenClaim := { program := "ytcbfbccmghdpgaadoor", sum := "000b660edeebdb0d4a203001690b27caec5708d60d16f1b0217aaecd51b8a6dd", func := "loop.example/lib-g01426/laws.FnPlacesAcross", spec := "fnPlacesAcross", named := ["unicode/utf8.first", "unicode/utf8.acceptRanges"], apart := false, laid := [("unicode/utf8.acceptRanges", laid_unicode_utf8_acceptRanges), ("unicode/utf8.first", laid_unicode_utf8_first)] }
def FnPlacesAcrossSaid : Prop := fnPlacesAcrossRow.holds Tryd.pinned (OpenSpec.ofChange fnPlacesAcrossSpec)

/-- ITS FALSE NEIGHBOUR: 'it returns false'. Refute it at one input. -/
def fnPlacesAcrossWrong : ChangeSpec := { name := "fnPlacesAcross", fn := fun _ => fun
  | [d] => { results := [.lit (.bool false)], args := [d] }
  | _ => none }
def FnPlacesAcrossWrongFalsely : Prop := fnPlacesAcrossRow.holds Tryd.pinned (OpenSpec.ofChange fnPlacesAcrossWrong)

/-- 'laws.FnFullAtCuts': WHATEVER THE INPUT: true; the input reads as it did. -/
def fnFullAtCutsSpec : ChangeSpec := { name := "fnFullAtCuts", fn := fun _ => fun
  | [d] => { results := [.lit (.bool true)], args := [d] }
  | _ => none }
def fnFullAtCutsRow : OpenClaim := { program := "ytcbfbccmghdpgaadoor", sum := "000b660edeebdb0d4a203001690b27caec5708d60d16f1b0217aaecd51b8a6dd", func := "loop.example/lib-g01426/laws.FnFullAtCuts", spec := "fnFullAtCuts", named := ["unicode/utf8.first", "unicode/utf8.acceptRanges"], apart := false, laid := [("unicode/utf8.acceptRanges", laid_unicode_utf8_acceptRanges), ("unicode/utf8.first", laid_unicode_utf8_first)] }
def FnFullAtCutsSaid : Prop := fnFullAtCutsRow.holds Tryd.pinned (OpenSpec.ofChange fnFullAtCutsSpec)

/-- ITS FALSE NEIGHBOUR: 'it returns false'. Refute it at one input. -/
def fnFullAtCutsWrong : ChangeSpec := { name := "fnFullAtCuts", fn := fun _ => fun
  | [d] => { results := [.lit (.bool false)], args := [d] }
  | _ => none }
def FnFullAtCutsWrongFalsely : Prop := fnFullAtCutsRow.holds Tryd.pinned (OpenSpec.ofChange fnFullAtCutsWrong)

/-- 'laws.FnExactDecodeScript': WHATEVER THE INPUT: true; the input reads as it did. -/
def fnExactDecodeScriptSpec : ChangeSpec := { name := "fnExactDecodeScript", fn := fun _ => fun
  | [d1, d2] => { results := [.lit (.bool true)], args := [d1, d2] }
  | _ => none }
def fnExactDecodeScriptRow : OpenClaim := { program := "ytcbfbccmghdpgaadoor", sum := "000b660edeebdb0d4a203001690b27caec5708d60d16f1b0217aaecd51b8a6dd", func := "loop.example/lib-g01426/laws.FnExactDecodeScript", spec := "fnExactDecodeScript", named := ["unicode/utf8.first", "unicode/utf8.acceptRanges"], apart := false, laid := [("unicode/utf8.acceptRanges", laid_unicode_utf8_acceptRanges), ("unicode/utf8.first", laid_unicode_utf8_first)] }
def FnExactDecodeScriptSaid : Prop := fnExactDecodeScriptRow.holds Tryd.pinned (OpenSpec.ofChange fnExactDecodeScriptSpec)

/-- ITS FALSE NEIGHBOUR: 'it returns false'. Refute it at one input. -/
def fnExactDecodeScriptWrong : ChangeSpec := { name := "fnExactDecodeScript", fn := fun _ => fun
  | [d1, d2] => { results := [.lit (.bool false)], args := [d1, d2] }
  | _ => none }
def FnExactDecodeScriptWrongFalsely : Prop := fnExactDecodeScriptRow.holds Tryd.pinned (OpenSpec.ofChange fnExactDecodeScriptWrong)

/-- 'laws.FnScriptIsReference': WHATEVER THE INPUT: true; the input reads as it did. -/
def fnScriptIsReferenceSpec : ChangeSpec := { name := "fnScriptIsReference", fn := fun _ => fun
  | [d1, d2] => { results := [.lit (.bool true)], args := [d1, d2] }
  | _ => none }
def fnScriptIsReferenceRow : OpenClaim := { program := "ytcbfbccmghdpgaadoor", sum := "000b660edeebdb0d4a203001690b27caec5708d60d16f1b0217aaecd51b8a6dd", func := "loop.example/lib-g01426/laws.FnScriptIsReference", spec := "fnScriptIsReference", named := ["unicode/utf8.first", "unicode/utf8.acceptRanges"], apart := false, laid := [("unicode/utf8.acceptRanges", laid_unicode_utf8_acceptRanges), ("unicode/utf8.first", laid_unicode_utf8_first)] }
def FnScriptIsReferenceSaid : Prop := fnScriptIsReferenceRow.holds Tryd.pinned (OpenSpec.ofChange fnScriptIsReferenceSpec)

/-- ITS FALSE NEIGHBOUR: 'it returns false'. Refute it at one input. -/
def fnScriptIsReferenceWrong : ChangeSpec := { name := "fnScriptIsReference", fn := fun _ => fun
  | [d1, d2] => { results := [.lit (.bool false)], args := [d1, d2] }
  | _ => none }
def FnScriptIsReferenceWrongFalsely : Prop := fnScriptIsReferenceRow.holds Tryd.pinned (OpenSpec.ofChange fnScriptIsReferenceWrong)

/-- 'laws.FnFurtherByte': WHATEVER THE INPUT: true; the input reads as it did. -/
def fnFurtherByteSpec : ChangeSpec := { name := "fnFurtherByte", fn := fun _ => fun
  | [d1, d2, d3] => { results := [.lit (.bool true)], args := [d1, d2, d3] }
  | _ => none }
def fnFurtherByteRow : OpenClaim := { program := "ytcbfbccmghdpgaadoor", sum := "000b660edeebdb0d4a203001690b27caec5708d60d16f1b0217aaecd51b8a6dd", func := "loop.example/lib-g01426/laws.FnFurtherByte", spec := "fnFurtherByte", named := ["unicode/utf8.first", "unicode/utf8.acceptRanges"], apart := false, laid := [("unicode/utf8.acceptRanges", laid_unicode_utf8_acceptRanges), ("unicode/utf8.first", laid_unicode_utf8_first)] }
def FnFurtherByteSaid : Prop := fnFurtherByteRow.holds Tryd.pinned (OpenSpec.ofChange fnFurtherByteSpec)

/-- ITS FALSE NEIGHBOUR: 'it returns false'. Refute it at one input. -/
def fnFurtherByteWrong : ChangeSpec := { name := "fnFurtherByte", fn := fun _ => fun
  | [d1, d2, d3] => { results := [.lit (.bool false)], args := [d1, d2, d3] }
  | _ => none }
def FnFurtherByteWrongFalsely : Prop := fnFurtherByteRow.holds Tryd.pinned (OpenSpec.ofChange fnFurtherByteWrong)

/-- 'laws.FnLostBytes': WHATEVER THE INPUT: true; the input reads as it did. -/
def fnLostBytesSpec : ChangeSpec := { name := "fnLostBytes", fn := fun _ => fun
  | [d1, d2, d3] => { results := [.lit (.bool true)], args := [d1, d2, d3] }
  | _ => none }
def fnLostBytesRow : OpenClaim := { program := "ytcbfbccmghdpgaadoor", sum := "000b660edeebdb0d4a203001690b27caec5708d60d16f1b0217aaecd51b8a6dd", func := "loop.example/lib-g01426/laws.FnLostBytes", spec := "fnLostBytes", named := ["unicode/utf8.first", "unicode/utf8.acceptRanges"], apart := false, laid := [("unicode/utf8.acceptRanges", laid_unicode_utf8_acceptRanges), ("unicode/utf8.first", laid_unicode_utf8_first)] }
def FnLostBytesSaid : Prop := fnLostBytesRow.holds Tryd.pinned (OpenSpec.ofChange fnLostBytesSpec)

/-- ITS FALSE NEIGHBOUR: 'it returns false'. Refute it at one input. -/
def fnLostBytesWrong : ChangeSpec := { name := "fnLostBytes", fn := fun _ => fun
  | [d1, d2, d3] => { results := [.lit (.bool false)], args := [d1, d2, d3] }
  | _ => none }
def FnLostBytesWrongFalsely : Prop := fnLostBytesRow.holds Tryd.pinned (OpenSpec.ofChange fnLostBytesWrong)

/-- 'laws.FnOtherByte': WHATEVER THE INPUT: true; the input reads as it did. -/
def fnOtherByteSpec : ChangeSpec := { name := "fnOtherByte", fn := fun _ => fun
  | [d1, d2, d3] => { results := [.lit (.bool true)], args := [d1, d2, d3] }
  | _ => none }
def fnOtherByteRow : OpenClaim := { program := "ytcbfbccmghdpgaadoor", sum := "000b660edeebdb0d4a203001690b27caec5708d60d16f1b0217aaecd51b8a6dd", func := "loop.example/lib-g01426/laws.FnOtherByte", spec := "fnOtherByte", named := ["unicode/utf8.first", "unicode/utf8.acceptRanges"], apart := false, laid := [("unicode/utf8.acceptRanges", laid_unicode_utf8_acceptRanges), ("unicode/utf8.first", laid_unicode_utf8_first)] }
def FnOtherByteSaid : Prop := fnOtherByteRow.holds Tryd.pinned (OpenSpec.ofChange fnOtherByteSpec)

/-- ITS FALSE NEIGHBOUR: 'it returns false'. Refute it at one input. -/
def fnOtherByteWrong : ChangeSpec := { name := "fnOtherByte", fn := fun _ => fun
  | [d1, d2, d3] => { results := [.lit (.bool false)], args := [d1, d2, d3] }
  | _ => none }
def FnOtherByteWrongFalsely : Prop := fnOtherByteRow.holds Tryd.pinned (OpenSpec.ofChange fnOtherByteWrong)

/-- 'laws.FnValidCuts': WHATEVER THE INPUT: true; the input reads as it did. -/
def fnValidCutsSpec : ChangeSpec := { name := "fnValidCuts", fn := fun _ => fun
  | [d1, d2] => { results := [.lit (.bool true)], args := [d1, d2] }
  | _ => none }
def fnValidCutsRow : OpenClaim := { program := "ytcbfbccmghdpgaadoor", sum := "000b660edeebdb0d4a203001690b27caec5708d60d16f1b0217aaecd51b8a6dd", func := "loop.example/lib-g01426/laws.FnValidCuts", spec := "fnValidCuts", named := ["unicode/utf8.first", "unicode/utf8.acceptRanges"], apart := false, laid := [("unicode/utf8.acceptRanges", laid_unicode_utf8_acceptRanges), ("unicode/utf8.first", laid_unicode_utf8_first)] }
def FnValidCutsSaid : Prop := fnValidCutsRow.holds Tryd.pinned (OpenSpec.ofChange fnValidCutsSpec)

/-- ITS FALSE NEIGHBOUR: 'it returns false'. Refute it at one input. -/
def fnValidCutsWrong : ChangeSpec := { name := "fnValidCuts", fn := fun _ => fun
  | [d1, d2] => { results := [.lit (.bool false)], args := [d1, d2] }
  | _ => none }
def FnValidCutsWrongFalsely : Prop := fnValidCutsRow.holds Tryd.pinned (OpenSpec.ofChange fnValidCutsWrong)

/-- 'laws.FnFullOnce': WHATEVER THE INPUT: true; the input reads as it did. -/
def fnFullOnceSpec : ChangeSpec := { name := "fnFullOnce", fn := fun _ => fun
  | [d] => { results := [.lit (.bool true)], args := [d] }
  | _ => none }
def fnFullOnceRow : OpenClaim := { program := "ytcbfbccmghdpgaadoor", sum := "000b660edeebdb0d4a203001690b27caec5708d60d16f1b0217aaecd51b8a6dd", func := "loop.example/lib-g01426/laws.FnFullOnce", spec := "fnFullOnce", named := ["unicode/utf8.first", "unicode/utf8.acceptRanges"], apart := false, laid := [("unicode/utf8.acceptRanges", laid_unicode_utf8_acceptRanges), ("unicode/utf8.first", laid_unicode_utf8_first)] }
def FnFullOnceSaid : Prop := fnFullOnceRow.holds Tryd.pinned (OpenSpec.ofChange fnFullOnceSpec)

/-- ITS FALSE NEIGHBOUR: 'it returns false'. Refute it at one input. -/
def fnFullOnceWrong : ChangeSpec := { name := "fnFullOnce", fn := fun _ => fun
  | [d] => { results := [.lit (.bool false)], args := [d] }
  | _ => none }
def FnFullOnceWrongFalsely : Prop := fnFullOnceRow.holds Tryd.pinned (OpenSpec.ofChange fnFullOnceWrong)

/- THE SECOND FORM. 'bulk': how many values and letters a reading holds, each counted each time it is reached (what is shared counts as often as it is met; a slice's spare places count too). A statement '..UptoSaid' is the law's where the arguments, and the package variables that the reading takes, are together of bulk at most 1048576: NARROWER than '..Said'. Prove '..Said' where nothing that the law and all that it calls make is longer than what came in: it says more and counts as full. Else prove '..UptoSaid'. A law counts once. -/
mutual
def uptoBulk {H : Type} : DataW H → Nat
  | .lit (.string bytes) => bytes.length + 1
  | .lit _ => 1
  | .nil => 1
  | .ptr d => uptoBulk d + 1
  | .slice elems spare => uptoBulkAll elems + uptoBulkAll spare + 1
  | .agg parts => uptoBulkAll parts + 1
  | .iface _ d => uptoBulk d + 1
  | .map entries => uptoBulkEntries entries + 1
  | .held _ => 1
def uptoBulkAll {H : Type} : List (DataW H) → Nat
  | [] => 0
  | d :: r => uptoBulk d + uptoBulkAll r
def uptoBulkEntries {H : Type} : List (Lit × DataW H) → Nat
  | [] => 0
  | x :: r => uptoBulkEntry x + uptoBulkEntries r
def uptoBulkEntry {H : Type} : Lit × DataW H → Nat
  | (.string bytes, d) => bytes.length + uptoBulk d + 1
  | (_, d) => uptoBulk d + 1
 end
def uptoSmall : (H : Type) → List (DataW H) → Bool := fun _ ds => decide (uptoBulkAll ds ≤ 1048576)
def OpenSpec.upto (s : _root_.Go.ChangeSpec) : _root_.Go.OpenSpec := { _root_.Go.OpenSpec.ofChange s with cond := some uptoSmall }

/-- 'laws.FnRoadsScript', WHERE WHAT IT READS IS OF BULK AT MOST 1048576: true; the input reads as it did. -/
def fnRoadsScriptUptoRow : OpenClaim := { program := "ytcbfbccmghdpgaadoor", sum := "000b660edeebdb0d4a203001690b27caec5708d60d16f1b0217aaecd51b8a6dd", func := "loop.example/lib-g01426/laws.FnRoadsScript", spec := "fnRoadsScript", named := ["unicode/utf8.first", "unicode/utf8.acceptRanges"], apart := false, laid := [("unicode/utf8.acceptRanges", laid_unicode_utf8_acceptRanges), ("unicode/utf8.first", laid_unicode_utf8_first)], narrowed := true }
def FnRoadsScriptUptoSaid : Prop := fnRoadsScriptUptoRow.holds Tryd.pinned (OpenSpec.upto fnRoadsScriptSpec)

/-- 'laws.FnFromAnywhere', WHERE WHAT IT READS IS OF BULK AT MOST 1048576: true; the input reads as it did. -/
def fnFromAnywhereUptoRow : OpenClaim := { program := "ytcbfbccmghdpgaadoor", sum := "000b660edeebdb0d4a203001690b27caec5708d60d16f1b0217aaecd51b8a6dd", func := "loop.example/lib-g01426/laws.FnFromAnywhere", spec := "fnFromAnywhere", named := ["unicode/utf8.first", "unicode/utf8.acceptRanges"], apart := false, laid := [("unicode/utf8.acceptRanges", laid_unicode_utf8_acceptRanges), ("unicode/utf8.first", laid_unicode_utf8_first)], narrowed := true }
def FnFromAnywhereUptoSaid : Prop := fnFromAnywhereUptoRow.holds Tryd.pinned (OpenSpec.upto fnFromAnywhereSpec)

/-- 'laws.FnBothEnds', WHERE WHAT IT READS IS OF BULK AT MOST 1048576: true; the input reads as it did. -/
def fnBothEndsUptoRow : OpenClaim := { program := "ytcbfbccmghdpgaadoor", sum := "000b660edeebdb0d4a203001690b27caec5708d60d16f1b0217aaecd51b8a6dd", func := "loop.example/lib-g01426/laws.FnBothEnds", spec := "fnBothEnds", named := ["unicode/utf8.first", "unicode/utf8.acceptRanges"], apart := false, laid := [("unicode/utf8.acceptRanges", laid_unicode_utf8_acceptRanges), ("unicode/utf8.first", laid_unicode_utf8_first)], narrowed := true }
def FnBothEndsUptoSaid : Prop := fnBothEndsUptoRow.holds Tryd.pinned (OpenSpec.upto fnBothEndsSpec)

/-- 'laws.FnPlacesAcross', WHERE WHAT IT READS IS OF BULK AT MOST 1048576: true; the input reads as it did. -/
def fnPlacesAcrossUptoRow : OpenClaim := { program := "ytcbfbccmghdpgaadoor", sum := "000b660edeebdb0d4a203001690b27caec5708d60d16f1b0217aaecd51b8a6dd", func := "loop.example/lib-g01426/laws.FnPlacesAcross", spec := "fnPlacesAcross", named := ["unicode/utf8.first", "unicode/utf8.acceptRanges"], apart := false, laid := [("unicode/utf8.acceptRanges", laid_unicode_utf8_acceptRanges), ("unicode/utf8.first", laid_unicode_utf8_first)], narrowed := true }
def FnPlacesAcrossUptoSaid : Prop := fnPlacesAcrossUptoRow.holds Tryd.pinned (OpenSpec.upto fnPlacesAcrossSpec)

/-- 'laws.FnFullAtCuts', WHERE WHAT IT READS IS OF BULK AT MOST 1048576: true; the input reads as it did. -/
def fnFullAtCutsUptoRow : OpenClaim := { program := "ytcbfbccmghdpgaadoor", sum := "000b660edeebdb0d4a203001690b27caec5708d60d16f1b0217aaecd51b8a6dd", func := "loop.example/lib-g01426/laws.FnFullAtCuts", spec := "fnFullAtCuts", named := ["unicode/utf8.first", "unicode/utf8.acceptRanges"], apart := false, laid := [("unicode/utf8.acceptRanges", laid_unicode_utf8_acceptRanges), ("unicode/utf8.first", laid_unicode_utf8_first)], narrowed := true }
def FnFullAtCutsUptoSaid : Prop := fnFullAtCutsUptoRow.holds Tryd.pinned (OpenSpec.upto fnFullAtCutsSpec)

/-- 'laws.FnExactDecodeScript', WHERE WHAT IT READS IS OF BULK AT MOST 1048576: true; the input reads as it did. -/
def fnExactDecodeScriptUptoRow : OpenClaim := { program := "ytcbfbccmghdpgaadoor", sum := "000b660edeebdb0d4a203001690b27caec5708d60d16f1b0217aaecd51b8a6dd", func := "loop.example/lib-g01426/laws.FnExactDecodeScript", spec := "fnExactDecodeScript", named := ["unicode/utf8.first", "unicode/utf8.acceptRanges"], apart := false, laid := [("unicode/utf8.acceptRanges", laid_unicode_utf8_acceptRanges), ("unicode/utf8.first", laid_unicode_utf8_first)], narrowed := true }
def FnExactDecodeScriptUptoSaid : Prop := fnExactDecodeScriptUptoRow.holds Tryd.pinned (OpenSpec.upto fnExactDecodeScriptSpec)

/-- 'laws.FnScriptIsReference', WHERE WHAT IT READS IS OF BULK AT MOST 1048576: true; the input reads as it did. -/
def fnScriptIsReferenceUptoRow : OpenClaim := { program := "ytcbfbccmghdpgaadoor", sum := "000b660edeebdb0d4a203001690b27caec5708d60d16f1b0217aaecd51b8a6dd", func := "loop.example/lib-g01426/laws.FnScriptIsReference", spec := "fnScriptIsReference", named := ["unicode/utf8.first", "unicode/utf8.acceptRanges"], apart := false, laid := [("unicode/utf8.acceptRanges", laid_unicode_utf8_acceptRanges), ("unicode/utf8.first", laid_unicode_utf8_first)], narrowed := true }
def FnScriptIsReferenceUptoSaid : Prop := fnScriptIsReferenceUptoRow.holds Tryd.pinned (OpenSpec.upto fnScriptIsReferenceSpec)

/-- 'laws.FnFurtherByte', WHERE WHAT IT READS IS OF BULK AT MOST 1048576: true; the input reads as it did. -/
def fnFurtherByteUptoRow : OpenClaim := { program := "ytcbfbccmghdpgaadoor", sum := "000b660edeebdb0d4a203001690b27caec5708d60d16f1b0217aaecd51b8a6dd", func := "loop.example/lib-g01426/laws.FnFurtherByte", spec := "fnFurtherByte", named := ["unicode/utf8.first", "unicode/utf8.acceptRanges"], apart := false, laid := [("unicode/utf8.acceptRanges", laid_unicode_utf8_acceptRanges), ("unicode/utf8.first", laid_unicode_utf8_first)], narrowed := true }
def FnFurtherByteUptoSaid : Prop := fnFurtherByteUptoRow.holds Tryd.pinned (OpenSpec.upto fnFurtherByteSpec)

/-- 'laws.FnLostBytes', WHERE WHAT IT READS IS OF BULK AT MOST 1048576: true; the input reads as it did. -/
def fnLostBytesUptoRow : OpenClaim := { program := "ytcbfbccmghdpgaadoor", sum := "000b660edeebdb0d4a203001690b27caec5708d60d16f1b0217aaecd51b8a6dd", func := "loop.example/lib-g01426/laws.FnLostBytes", spec := "fnLostBytes", named := ["unicode/utf8.first", "unicode/utf8.acceptRanges"], apart := false, laid := [("unicode/utf8.acceptRanges", laid_unicode_utf8_acceptRanges), ("unicode/utf8.first", laid_unicode_utf8_first)], narrowed := true }
def FnLostBytesUptoSaid : Prop := fnLostBytesUptoRow.holds Tryd.pinned (OpenSpec.upto fnLostBytesSpec)

/-- 'laws.FnOtherByte', WHERE WHAT IT READS IS OF BULK AT MOST 1048576: true; the input reads as it did. -/
def fnOtherByteUptoRow : OpenClaim := { program := "ytcbfbccmghdpgaadoor", sum := "000b660edeebdb0d4a203001690b27caec5708d60d16f1b0217aaecd51b8a6dd", func := "loop.example/lib-g01426/laws.FnOtherByte", spec := "fnOtherByte", named := ["unicode/utf8.first", "unicode/utf8.acceptRanges"], apart := false, laid := [("unicode/utf8.acceptRanges", laid_unicode_utf8_acceptRanges), ("unicode/utf8.first", laid_unicode_utf8_first)], narrowed := true }
def FnOtherByteUptoSaid : Prop := fnOtherByteUptoRow.holds Tryd.pinned (OpenSpec.upto fnOtherByteSpec)

/-- 'laws.FnValidCuts', WHERE WHAT IT READS IS OF BULK AT MOST 1048576: true; the input reads as it did. -/
def fnValidCutsUptoRow : OpenClaim := { program := "ytcbfbccmghdpgaadoor", sum := "000b660edeebdb0d4a203001690b27caec5708d60d16f1b0217aaecd51b8a6dd", func := "loop.example/lib-g01426/laws.FnValidCuts", spec := "fnValidCuts", named := ["unicode/utf8.first", "unicode/utf8.acceptRanges"], apart := false, laid := [("unicode/utf8.acceptRanges", laid_unicode_utf8_acceptRanges), ("unicode/utf8.first", laid_unicode_utf8_first)], narrowed := true }
def FnValidCutsUptoSaid : Prop := fnValidCutsUptoRow.holds Tryd.pinned (OpenSpec.upto fnValidCutsSpec)

/-- 'laws.FnFullOnce', WHERE WHAT IT READS IS OF BULK AT MOST 1048576: true; the input reads as it did. -/
def fnFullOnceUptoRow : OpenClaim := { program := "ytcbfbccmghdpgaadoor", sum := "000b660edeebdb0d4a203001690b27caec5708d60d16f1b0217aaecd51b8a6dd", func := "loop.example/lib-g01426/laws.FnFullOnce", spec := "fnFullOnce", named := ["unicode/utf8.first", "unicode/utf8.acceptRanges"], apart := false, laid := [("unicode/utf8.acceptRanges", laid_unicode_utf8_acceptRanges), ("unicode/utf8.first", laid_unicode_utf8_first)], narrowed := true }
def FnFullOnceUptoSaid : Prop := fnFullOnceUptoRow.holds Tryd.pinned (OpenSpec.upto fnFullOnceSpec)

end Rows
end Go.Proofs.YtcbfbccmghdpgaaDoor
