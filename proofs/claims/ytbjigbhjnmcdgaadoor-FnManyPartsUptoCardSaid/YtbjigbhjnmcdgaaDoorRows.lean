/-
  NARROWER THAN 'FOR EVERY INPUT', by the rows' own cells (each row's printed sentence says how): FnBothEnds: laid · FnValidCuts: laid · FnManyParts: laid · FnPutTogether: laid.
  DERIVED. THE GIVEN ROWS OF THIS SEAT. 4 by the template 'for every input the law returns true; each argument reads behind the call as it read before'; 0 by the template 'total and deterministic' (their statements: YtbjigbhjnmcdgaaDoorTotals.lean).
  GIVEN WITH THE SEED: the statements are not yours to turn. If you find one false, say at which input.
  Laid BY PROGRAM, IN A SANDBOX (cutbox-rows.mjs): the forced cells as the released guide's own fill.sh prints them over the translation d6cd8c3ada71434c… (all of the seat's roots in one cut). By AI agents, Wed Nov 11 2026. No macro, syntax, notation, axiom, sorry.
-/
import Derived.Test.YtbjigbhjnmcdgaaDoorChecked
import GoSem.PinnedTables
import GoSem.Claim
import GoSem.ClaimJoined
import GoSem.ClaimMapViews
import Derived.JoinedTies
import Derived.KernelRfl
namespace Go.Proofs.YtbjigbhjnmcdgaaDoor
/- THE CELL 'sum', in the pinned program and in every row, IS THE sha256 OF THE DUMP (.gsa) THAT YtbjigbhjnmcdgaaDoorProg.lean LOADS. Nothing in Lean hashes anything: it is a label: what it is worth is what the hold of that sum in a sandbox is worth. -/
noncomputable def Tryd.pinned : Pinned := { name := "ytbjigbhjnmcdgaadoor", sum := "d6cd8c3ada71434c0c44ac65331965b64268bc39c6416af61b11d2075243bd21", checked := Tryd.checked }
namespace Rows
def none {H : Type} : Left H := { results := [], args := [] }

/- WHAT THE LISTED PACKAGE-LEVEL VARIABLES READ AS WHEN THE CALL BEGINS. Each datum BY PROGRAM (the guide's laid-datum.mjs) off the statement by which the dump's own 'gosem.cut.vars' lays the variable. In a bare row this is a premise. The card (YtbjigbhjnmcdgaaDoorCards.lean) ties it to the program's text. -/
def laid_unicode_utf8_acceptRanges {H : Type} : DataW H := .agg [.agg [.lit (.int .u8 128), .lit (.int .u8 191)], .agg [.lit (.int .u8 160), .lit (.int .u8 191)], .agg [.lit (.int .u8 128), .lit (.int .u8 159)], .agg [.lit (.int .u8 144), .lit (.int .u8 191)], .agg [.lit (.int .u8 128), .lit (.int .u8 143)], .agg [.lit (.int .u8 0), .lit (.int .u8 0)], .agg [.lit (.int .u8 0), .lit (.int .u8 0)], .agg [.lit (.int .u8 0), .lit (.int .u8 0)], .agg [.lit (.int .u8 0), .lit (.int .u8 0)], .agg [.lit (.int .u8 0), .lit (.int .u8 0)], .agg [.lit (.int .u8 0), .lit (.int .u8 0)], .agg [.lit (.int .u8 0), .lit (.int .u8 0)], .agg [.lit (.int .u8 0), .lit (.int .u8 0)], .agg [.lit (.int .u8 0), .lit (.int .u8 0)], .agg [.lit (.int .u8 0), .lit (.int .u8 0)], .agg [.lit (.int .u8 0), .lit (.int .u8 0)]]
/-- One of Go's own tables, pinned by name: the form's constant. -/
def laid_unicode_utf8_first : DataW Unit := Go.Pinned.utf8First

/-- 'laws.FnBothEnds': WHATEVER THE INPUT: true; the input reads as it did. -/
def fnBothEndsSpec : ChangeSpec := { name := "fnBothEnds", fn := fun _ => fun
  | [d1, d2] => { results := [.lit (.bool true)], args := [d1, d2] }
  | _ => none }
def fnBothEndsRow : OpenClaim := { program := "ytbjigbhjnmcdgaadoor", sum := "d6cd8c3ada71434c0c44ac65331965b64268bc39c6416af61b11d2075243bd21", func := "loop.example/lib-g01426/laws.FnBothEnds", spec := "fnBothEnds", named := ["unicode/utf8.first", "unicode/utf8.acceptRanges"], apart := false, laid := [("unicode/utf8.acceptRanges", laid_unicode_utf8_acceptRanges), ("unicode/utf8.first", laid_unicode_utf8_first)] }
def FnBothEndsSaid : Prop := fnBothEndsRow.holds Tryd.pinned (OpenSpec.ofChange fnBothEndsSpec)

/-- ITS FALSE NEIGHBOUR: 'it returns false'. Refute it at one input. -/
def fnBothEndsWrong : ChangeSpec := { name := "fnBothEnds", fn := fun _ => fun
  | [d1, d2] => { results := [.lit (.bool false)], args := [d1, d2] }
  | _ => none }
def FnBothEndsWrongFalsely : Prop := fnBothEndsRow.holds Tryd.pinned (OpenSpec.ofChange fnBothEndsWrong)

/-- 'laws.FnValidCuts': WHATEVER THE INPUT: true; the input reads as it did. -/
def fnValidCutsSpec : ChangeSpec := { name := "fnValidCuts", fn := fun _ => fun
  | [d1, d2] => { results := [.lit (.bool true)], args := [d1, d2] }
  | _ => none }
def fnValidCutsRow : OpenClaim := { program := "ytbjigbhjnmcdgaadoor", sum := "d6cd8c3ada71434c0c44ac65331965b64268bc39c6416af61b11d2075243bd21", func := "loop.example/lib-g01426/laws.FnValidCuts", spec := "fnValidCuts", named := ["unicode/utf8.first", "unicode/utf8.acceptRanges"], apart := false, laid := [("unicode/utf8.acceptRanges", laid_unicode_utf8_acceptRanges), ("unicode/utf8.first", laid_unicode_utf8_first)] }
def FnValidCutsSaid : Prop := fnValidCutsRow.holds Tryd.pinned (OpenSpec.ofChange fnValidCutsSpec)

/-- ITS FALSE NEIGHBOUR: 'it returns false'. Refute it at one input. -/
def fnValidCutsWrong : ChangeSpec := { name := "fnValidCuts", fn := fun _ => fun
  | [d1, d2] => { results := [.lit (.bool false)], args := [d1, d2] }
  | _ => none }
def FnValidCutsWrongFalsely : Prop := fnValidCutsRow.holds Tryd.pinned (OpenSpec.ofChange fnValidCutsWrong)

/-- 'laws.FnManyParts': WHATEVER THE INPUT: true; the input reads as it did. -/
def fnManyPartsSpec : ChangeSpec := { name := "fnManyParts", fn := fun _ => fun
  | [d1, d2] => { results := [.lit (.bool true)], args := [d1, d2] }
  | _ => none }
def fnManyPartsRow : OpenClaim := { program := "ytbjigbhjnmcdgaadoor", sum := "d6cd8c3ada71434c0c44ac65331965b64268bc39c6416af61b11d2075243bd21", func := "loop.example/lib-g01426/laws.FnManyParts", spec := "fnManyParts", named := ["unicode/utf8.first", "unicode/utf8.acceptRanges"], apart := false, laid := [("unicode/utf8.acceptRanges", laid_unicode_utf8_acceptRanges), ("unicode/utf8.first", laid_unicode_utf8_first)] }
def FnManyPartsSaid : Prop := fnManyPartsRow.holds Tryd.pinned (OpenSpec.ofChange fnManyPartsSpec)

/-- ITS FALSE NEIGHBOUR: 'it returns false'. Refute it at one input. -/
def fnManyPartsWrong : ChangeSpec := { name := "fnManyParts", fn := fun _ => fun
  | [d1, d2] => { results := [.lit (.bool false)], args := [d1, d2] }
  | _ => none }
def FnManyPartsWrongFalsely : Prop := fnManyPartsRow.holds Tryd.pinned (OpenSpec.ofChange fnManyPartsWrong)

/-- 'laws.FnPutTogether': WHATEVER THE INPUT: true; the input reads as it did. -/
def fnPutTogetherSpec : ChangeSpec := { name := "fnPutTogether", fn := fun _ => fun
  | [d] => { results := [.lit (.bool true)], args := [d] }
  | _ => none }
def fnPutTogetherRow : OpenClaim := { program := "ytbjigbhjnmcdgaadoor", sum := "d6cd8c3ada71434c0c44ac65331965b64268bc39c6416af61b11d2075243bd21", func := "loop.example/lib-g01426/laws.FnPutTogether", spec := "fnPutTogether", named := ["unicode/utf8.first", "unicode/utf8.acceptRanges"], apart := false, laid := [("unicode/utf8.acceptRanges", laid_unicode_utf8_acceptRanges), ("unicode/utf8.first", laid_unicode_utf8_first)] }
def FnPutTogetherSaid : Prop := fnPutTogetherRow.holds Tryd.pinned (OpenSpec.ofChange fnPutTogetherSpec)

/-- ITS FALSE NEIGHBOUR: 'it returns false'. Refute it at one input. -/
def fnPutTogetherWrong : ChangeSpec := { name := "fnPutTogether", fn := fun _ => fun
  | [d] => { results := [.lit (.bool false)], args := [d] }
  | _ => none }
def FnPutTogetherWrongFalsely : Prop := fnPutTogetherRow.holds Tryd.pinned (OpenSpec.ofChange fnPutTogetherWrong)

/- THE SECOND FORM. 'bulk': how many values and letters a reading holds, each counted each time it is reached (what is shared counts as often as it is met; a slice's spare places count too). A statement '..UptoSaid' is the law's where the arguments, and the package variables that the reading takes, are together of bulk at most 1048576: NARROWER than '..Said'. Prove '..Said' where nothing that the law and all that it calls make is longer than what came in: it says more and counts as full. Else prove '..UptoSaid'. A law counts once. -/
mutual
def uptoBulk {H : Type} : DataW H → Nat
  | .lit (.string bytes) => bytes.length + 1
  | .lit _ => 1
  | .nil => 1
  | .ptr d => uptoBulk d + 1
  | .slice elems spare => uptoBulkAll elems + uptoBulkAll spare + 1
  | .agg parts => uptoBulkAll parts + 1
  | .iface _ d => uptoBulk d + 1
  | .map entries => uptoBulkEntries entries + 1
  | .held _ => 1
def uptoBulkAll {H : Type} : List (DataW H) → Nat
  | [] => 0
  | d :: r => uptoBulk d + uptoBulkAll r
def uptoBulkEntries {H : Type} : List (Lit × DataW H) → Nat
  | [] => 0
  | x :: r => uptoBulkEntry x + uptoBulkEntries r
def uptoBulkEntry {H : Type} : Lit × DataW H → Nat
  | (.string bytes, d) => bytes.length + uptoBulk d + 1
  | (_, d) => uptoBulk d + 1
 end
def uptoSmall : (H : Type) → List (DataW H) → Bool := fun _ ds => decide (uptoBulkAll ds ≤ 1048576)
def OpenSpec.upto (s : _root_.Go.ChangeSpec) : _root_.Go.OpenSpec := { _root_.Go.OpenSpec.ofChange s with cond := some uptoSmall }

/-- 'laws.FnBothEnds', WHERE WHAT IT READS IS OF BULK AT MOST 1048576: true; the input reads as it did. -/
def fnBothEndsUptoRow : OpenClaim := { program := "ytbjigbhjnmcdgaadoor", sum := "d6cd8c3ada71434c0c44ac65331965b64268bc39c6416af61b11d2075243bd21", func := "loop.example/lib-g01426/laws.FnBothEnds", spec := "fnBothEnds", named := ["unicode/utf8.first", "unicode/utf8.acceptRanges"], apart := false, laid := [("unicode/utf8.acceptRanges", laid_unicode_utf8_acceptRanges), ("unicode/utf8.first", laid_unicode_utf8_first)], narrowed := true }
def FnBothEndsUptoSaid : Prop := fnBothEndsUptoRow.holds Tryd.pinned (OpenSpec.upto fnBothEndsSpec)

/-- 'laws.FnValidCuts', WHERE WHAT IT READS IS OF BULK AT MOST 1048576: true; the input reads as it did. -/
def fnValidCutsUptoRow : OpenClaim := { program := "ytbjigbhjnmcdgaadoor", sum := "d6cd8c3ada71434c0c44ac65331965b64268bc39c6416af61b11d2075243bd21", func := "loop.example/lib-g01426/laws.FnValidCuts", spec := "fnValidCuts", named := ["unicode/utf8.first", "unicode/utf8.acceptRanges"], apart := false, laid := [("unicode/utf8.acceptRanges", laid_unicode_utf8_acceptRanges), ("unicode/utf8.first", laid_unicode_utf8_first)], narrowed := true }
def FnValidCutsUptoSaid : Prop := fnValidCutsUptoRow.holds Tryd.pinned (OpenSpec.upto fnValidCutsSpec)

/-- 'laws.FnManyParts', WHERE WHAT IT READS IS OF BULK AT MOST 1048576: true; the input reads as it did. -/
def fnManyPartsUptoRow : OpenClaim := { program := "ytbjigbhjnmcdgaadoor", sum := "d6cd8c3ada71434c0c44ac65331965b64268bc39c6416af61b11d2075243bd21", func := "loop.example/lib-g01426/laws.FnManyParts", spec := "fnManyParts", named := ["unicode/utf8.first", "unicode/utf8.acceptRanges"], apart := false, laid := [("unicode/utf8.acceptRanges", laid_unicode_utf8_acceptRanges), ("unicode/utf8.first", laid_unicode_utf8_first)], narrowed := true }
def FnManyPartsUptoSaid : Prop := fnManyPartsUptoRow.holds Tryd.pinned (OpenSpec.upto fnManyPartsSpec)

/-- 'laws.FnPutTogether', WHERE WHAT IT READS IS OF BULK AT MOST 1048576: true; the input reads as it did. -/
def fnPutTogetherUptoRow : OpenClaim := { program := "ytbjigbhjnmcdgaadoor", sum := "d6cd8c3ada71434c0c44ac65331965b64268bc39c6416af61b11d2075243bd21", func := "loop.example/lib-g01426/laws.FnPutTogether", spec := "fnPutTogether", named := ["unicode/utf8.first", "unicode/utf8.acceptRanges"], apart := false, laid := [("unicode/utf8.acceptRanges", laid_unicode_utf8_acceptRanges), ("unicode/utf8.first", laid_unicode_utf8_first)], narrowed := true }
def FnPutTogetherUptoSaid : Prop := fnPutTogetherUptoRow.holds Tryd.pinned (OpenSpec.upto fnPutTogetherSpec)

end Rows
end Go.Proofs.YtbjigbhjnmcdgaaDoor
