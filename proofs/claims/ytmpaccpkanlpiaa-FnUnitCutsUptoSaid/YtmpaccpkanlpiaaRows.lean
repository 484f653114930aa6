/-
  No cell of these rows narrows 'for every input' (looked for: loops, veiled, ifaces, maps, wideKeys, modest, calm, conditions, laid).
  DERIVED. THE GIVEN ROWS OF THIS SEAT. 14 by the template 'for every input the law returns true; each argument reads behind the call as it read before'; 0 by the template 'total and deterministic' (their statements: YtmpaccpkanlpiaaTotals.lean).
  GIVEN WITH THE SEED: the statements are not yours to turn. If you find one false, say at which input.
  Laid BY PROGRAM, IN A SANDBOX (cutbox-rows.mjs): the forced cells as the released guide's own fill.sh prints them over the translation 7fca2a86cfefc01b… (all of the seat's roots in one cut). By AI agents, Wed Nov 11 2026. No macro, syntax, notation, axiom, sorry.
-/
import Derived.Test.YtmpaccpkanlpiaaChecked
import GoSem.Claim
import GoSem.ClaimJoined
import GoSem.ClaimMapViews
import Derived.JoinedTies
import Derived.KernelRfl
namespace Go.Proofs.Ytmpaccpkanlpiaa
/- THE CELL 'sum', in the pinned program and in every row, IS THE sha256 OF THE DUMP (.gsa) THAT YtmpaccpkanlpiaaProg.lean LOADS. Nothing in Lean hashes anything: it is a label: what it is worth is what the hold of that sum in a sandbox is worth. -/
noncomputable def Try.pinned : Pinned := { name := "ytmpaccpkanlpiaa", sum := "7fca2a86cfefc01b3ec6efe15bb3f0cb5bd280d22faecc6000800c8dacf61fec", checked := Try.checked }
namespace Rows
def none {H : Type} : Left H := { results := [], args := [] }

/-- 'laws.FnSortedAlike': WHATEVER THE INPUT: true; the input reads as it did. -/
def fnSortedAlikeSpec : ChangeSpec := { name := "fnSortedAlike", fn := fun _ => fun
  | [d] => { results := [.lit (.bool true)], args := [d] }
  | _ => none }
def fnSortedAlikeRow : OpenClaim := { program := "ytmpaccpkanlpiaa", sum := "7fca2a86cfefc01b3ec6efe15bb3f0cb5bd280d22faecc6000800c8dacf61fec", func := "loop.example/lib-g01426/laws.FnSortedAlike", spec := "fnSortedAlike", apart := false }
def FnSortedAlikeSaid : Prop := fnSortedAlikeRow.holds Try.pinned (OpenSpec.ofChange fnSortedAlikeSpec)

/-- ITS FALSE NEIGHBOUR: 'it returns false'. Refute it at one input. -/
def fnSortedAlikeWrong : ChangeSpec := { name := "fnSortedAlike", fn := fun _ => fun
  | [d] => { results := [.lit (.bool false)], args := [d] }
  | _ => none }
def FnSortedAlikeWrongFalsely : Prop := fnSortedAlikeRow.holds Try.pinned (OpenSpec.ofChange fnSortedAlikeWrong)

/-- 'laws.FnPairsWalk': WHATEVER THE INPUT: true; the input reads as it did. -/
def fnPairsWalkSpec : ChangeSpec := { name := "fnPairsWalk", fn := fun _ => fun
  | [d] => { results := [.lit (.bool true)], args := [d] }
  | _ => none }
def fnPairsWalkRow : OpenClaim := { program := "ytmpaccpkanlpiaa", sum := "7fca2a86cfefc01b3ec6efe15bb3f0cb5bd280d22faecc6000800c8dacf61fec", func := "loop.example/lib-g01426/laws.FnPairsWalk", spec := "fnPairsWalk", apart := false }
def FnPairsWalkSaid : Prop := fnPairsWalkRow.holds Try.pinned (OpenSpec.ofChange fnPairsWalkSpec)

/-- ITS FALSE NEIGHBOUR: 'it returns false'. Refute it at one input. -/
def fnPairsWalkWrong : ChangeSpec := { name := "fnPairsWalk", fn := fun _ => fun
  | [d] => { results := [.lit (.bool false)], args := [d] }
  | _ => none }
def FnPairsWalkWrongFalsely : Prop := fnPairsWalkRow.holds Try.pinned (OpenSpec.ofChange fnPairsWalkWrong)

/-- 'laws.FnLengthsAcross': WHATEVER THE INPUT: true; the input reads as it did. -/
def fnLengthsAcrossSpec : ChangeSpec := { name := "fnLengthsAcross", fn := fun _ => fun
  | [d] => { results := [.lit (.bool true)], args := [d] }
  | _ => none }
def fnLengthsAcrossRow : OpenClaim := { program := "ytmpaccpkanlpiaa", sum := "7fca2a86cfefc01b3ec6efe15bb3f0cb5bd280d22faecc6000800c8dacf61fec", func := "loop.example/lib-g01426/laws.FnLengthsAcross", spec := "fnLengthsAcross", apart := false }
def FnLengthsAcrossSaid : Prop := fnLengthsAcrossRow.holds Try.pinned (OpenSpec.ofChange fnLengthsAcrossSpec)

/-- ITS FALSE NEIGHBOUR: 'it returns false'. Refute it at one input. -/
def fnLengthsAcrossWrong : ChangeSpec := { name := "fnLengthsAcross", fn := fun _ => fun
  | [d] => { results := [.lit (.bool false)], args := [d] }
  | _ => none }
def FnLengthsAcrossWrongFalsely : Prop := fnLengthsAcrossRow.holds Try.pinned (OpenSpec.ofChange fnLengthsAcrossWrong)

/-- 'laws.FnPlacesOfStarts': WHATEVER THE INPUT: true; the input reads as it did. -/
def fnPlacesOfStartsSpec : ChangeSpec := { name := "fnPlacesOfStarts", fn := fun _ => fun
  | [d] => { results := [.lit (.bool true)], args := [d] }
  | _ => none }
def fnPlacesOfStartsRow : OpenClaim := { program := "ytmpaccpkanlpiaa", sum := "7fca2a86cfefc01b3ec6efe15bb3f0cb5bd280d22faecc6000800c8dacf61fec", func := "loop.example/lib-g01426/laws.FnPlacesOfStarts", spec := "fnPlacesOfStarts", apart := false }
def FnPlacesOfStartsSaid : Prop := fnPlacesOfStartsRow.holds Try.pinned (OpenSpec.ofChange fnPlacesOfStartsSpec)

/-- ITS FALSE NEIGHBOUR: 'it returns false'. Refute it at one input. -/
def fnPlacesOfStartsWrong : ChangeSpec := { name := "fnPlacesOfStarts", fn := fun _ => fun
  | [d] => { results := [.lit (.bool false)], args := [d] }
  | _ => none }
def FnPlacesOfStartsWrongFalsely : Prop := fnPlacesOfStartsRow.holds Try.pinned (OpenSpec.ofChange fnPlacesOfStartsWrong)

/-- 'laws.FnUnitCuts': WHATEVER THE INPUT: true; the input reads as it did. -/
def fnUnitCutsSpec : ChangeSpec := { name := "fnUnitCuts", fn := fun _ => fun
  | [d1, d2] => { results := [.lit (.bool true)], args := [d1, d2] }
  | _ => none }
def fnUnitCutsRow : OpenClaim := { program := "ytmpaccpkanlpiaa", sum := "7fca2a86cfefc01b3ec6efe15bb3f0cb5bd280d22faecc6000800c8dacf61fec", func := "loop.example/lib-g01426/laws.FnUnitCuts", spec := "fnUnitCuts", apart := false }
def FnUnitCutsSaid : Prop := fnUnitCutsRow.holds Try.pinned (OpenSpec.ofChange fnUnitCutsSpec)

/-- ITS FALSE NEIGHBOUR: 'it returns false'. Refute it at one input. -/
def fnUnitCutsWrong : ChangeSpec := { name := "fnUnitCuts", fn := fun _ => fun
  | [d1, d2] => { results := [.lit (.bool false)], args := [d1, d2] }
  | _ => none }
def FnUnitCutsWrongFalsely : Prop := fnUnitCutsRow.holds Try.pinned (OpenSpec.ofChange fnUnitCutsWrong)

/-- 'laws.FnBeginAcross': WHATEVER THE INPUT: true; the input reads as it did. -/
def fnBeginAcrossSpec : ChangeSpec := { name := "fnBeginAcross", fn := fun _ => fun
  | [d1, d2] => { results := [.lit (.bool true)], args := [d1, d2] }
  | _ => none }
def fnBeginAcrossRow : OpenClaim := { program := "ytmpaccpkanlpiaa", sum := "7fca2a86cfefc01b3ec6efe15bb3f0cb5bd280d22faecc6000800c8dacf61fec", func := "loop.example/lib-g01426/laws.FnBeginAcross", spec := "fnBeginAcross", apart := false }
def FnBeginAcrossSaid : Prop := fnBeginAcrossRow.holds Try.pinned (OpenSpec.ofChange fnBeginAcrossSpec)

/-- ITS FALSE NEIGHBOUR: 'it returns false'. Refute it at one input. -/
def fnBeginAcrossWrong : ChangeSpec := { name := "fnBeginAcross", fn := fun _ => fun
  | [d1, d2] => { results := [.lit (.bool false)], args := [d1, d2] }
  | _ => none }
def FnBeginAcrossWrongFalsely : Prop := fnBeginAcrossRow.holds Try.pinned (OpenSpec.ofChange fnBeginAcrossWrong)

/-- 'laws.FnFoundAcross': WHATEVER THE INPUT: true; the input reads as it did. -/
def fnFoundAcrossSpec : ChangeSpec := { name := "fnFoundAcross", fn := fun _ => fun
  | [d1, d2] => { results := [.lit (.bool true)], args := [d1, d2] }
  | _ => none }
def fnFoundAcrossRow : OpenClaim := { program := "ytmpaccpkanlpiaa", sum := "7fca2a86cfefc01b3ec6efe15bb3f0cb5bd280d22faecc6000800c8dacf61fec", func := "loop.example/lib-g01426/laws.FnFoundAcross", spec := "fnFoundAcross", apart := false }
def FnFoundAcrossSaid : Prop := fnFoundAcrossRow.holds Try.pinned (OpenSpec.ofChange fnFoundAcrossSpec)

/-- ITS FALSE NEIGHBOUR: 'it returns false'. Refute it at one input. -/
def fnFoundAcrossWrong : ChangeSpec := { name := "fnFoundAcross", fn := fun _ => fun
  | [d1, d2] => { results := [.lit (.bool false)], args := [d1, d2] }
  | _ => none }
def FnFoundAcrossWrongFalsely : Prop := fnFoundAcrossRow.holds Try.pinned (OpenSpec.ofChange fnFoundAcrossWrong)

/-- 'laws.FnOrdersAcross': WHATEVER THE INPUT: true; the input reads as it did. -/
def fnOrdersAcrossSpec : ChangeSpec := { name := "fnOrdersAcross", fn := fun _ => fun
  | [d1, d2] => { results := [.lit (.bool true)], args := [d1, d2] }
  | _ => none }
def fnOrdersAcrossRow : OpenClaim := { program := "ytmpaccpkanlpiaa", sum := "7fca2a86cfefc01b3ec6efe15bb3f0cb5bd280d22faecc6000800c8dacf61fec", func := "loop.example/lib-g01426/laws.FnOrdersAcross", spec := "fnOrdersAcross", apart := false }
def FnOrdersAcrossSaid : Prop := fnOrdersAcrossRow.holds Try.pinned (OpenSpec.ofChange fnOrdersAcrossSpec)

/-- ITS FALSE NEIGHBOUR: 'it returns false'. Refute it at one input. -/
def fnOrdersAcrossWrong : ChangeSpec := { name := "fnOrdersAcross", fn := fun _ => fun
  | [d1, d2] => { results := [.lit (.bool false)], args := [d1, d2] }
  | _ => none }
def FnOrdersAcrossWrongFalsely : Prop := fnOrdersAcrossRow.holds Try.pinned (OpenSpec.ofChange fnOrdersAcrossWrong)

/-- 'laws.FnPlainOrder': WHATEVER THE INPUT: true; the input reads as it did. -/
def fnPlainOrderSpec : ChangeSpec := { name := "fnPlainOrder", fn := fun _ => fun
  | [d1, d2] => { results := [.lit (.bool true)], args := [d1, d2] }
  | _ => none }
def fnPlainOrderRow : OpenClaim := { program := "ytmpaccpkanlpiaa", sum := "7fca2a86cfefc01b3ec6efe15bb3f0cb5bd280d22faecc6000800c8dacf61fec", func := "loop.example/lib-g01426/laws.FnPlainOrder", spec := "fnPlainOrder", apart := false }
def FnPlainOrderSaid : Prop := fnPlainOrderRow.holds Try.pinned (OpenSpec.ofChange fnPlainOrderSpec)

/-- ITS FALSE NEIGHBOUR: 'it returns false'. Refute it at one input. -/
def fnPlainOrderWrong : ChangeSpec := { name := "fnPlainOrder", fn := fun _ => fun
  | [d1, d2] => { results := [.lit (.bool false)], args := [d1, d2] }
  | _ => none }
def FnPlainOrderWrongFalsely : Prop := fnPlainOrderRow.holds Try.pinned (OpenSpec.ofChange fnPlainOrderWrong)

/-- 'laws.FnCountsOfCuts': WHATEVER THE INPUT: true; the input reads as it did. -/
def fnCountsOfCutsSpec : ChangeSpec := { name := "fnCountsOfCuts", fn := fun _ => fun
  | [d] => { results := [.lit (.bool true)], args := [d] }
  | _ => none }
def fnCountsOfCutsRow : OpenClaim := { program := "ytmpaccpkanlpiaa", sum := "7fca2a86cfefc01b3ec6efe15bb3f0cb5bd280d22faecc6000800c8dacf61fec", func := "loop.example/lib-g01426/laws.FnCountsOfCuts", spec := "fnCountsOfCuts", apart := false }
def FnCountsOfCutsSaid : Prop := fnCountsOfCutsRow.holds Try.pinned (OpenSpec.ofChange fnCountsOfCutsSpec)

/-- ITS FALSE NEIGHBOUR: 'it returns false'. Refute it at one input. -/
def fnCountsOfCutsWrong : ChangeSpec := { name := "fnCountsOfCuts", fn := fun _ => fun
  | [d] => { results := [.lit (.bool false)], args := [d] }
  | _ => none }
def FnCountsOfCutsWrongFalsely : Prop := fnCountsOfCutsRow.holds Try.pinned (OpenSpec.ofChange fnCountsOfCutsWrong)

/-- 'laws.FnPairsAcross': WHATEVER THE INPUT: true; the input reads as it did. -/
def fnPairsAcrossSpec : ChangeSpec := { name := "fnPairsAcross", fn := fun _ => fun
  | [d] => { results := [.lit (.bool true)], args := [d] }
  | _ => none }
def fnPairsAcrossRow : OpenClaim := { program := "ytmpaccpkanlpiaa", sum := "7fca2a86cfefc01b3ec6efe15bb3f0cb5bd280d22faecc6000800c8dacf61fec", func := "loop.example/lib-g01426/laws.FnPairsAcross", spec := "fnPairsAcross", apart := false }
def FnPairsAcrossSaid : Prop := fnPairsAcrossRow.holds Try.pinned (OpenSpec.ofChange fnPairsAcrossSpec)

/-- ITS FALSE NEIGHBOUR: 'it returns false'. Refute it at one input. -/
def fnPairsAcrossWrong : ChangeSpec := { name := "fnPairsAcross", fn := fun _ => fun
  | [d] => { results := [.lit (.bool false)], args := [d] }
  | _ => none }
def FnPairsAcrossWrongFalsely : Prop := fnPairsAcrossRow.holds Try.pinned (OpenSpec.ofChange fnPairsAcrossWrong)

/-- 'laws.FnTurnedUnits': WHATEVER THE INPUT: true; the input reads as it did. -/
def fnTurnedUnitsSpec : ChangeSpec := { name := "fnTurnedUnits", fn := fun _ => fun
  | [d] => { results := [.lit (.bool true)], args := [d] }
  | _ => none }
def fnTurnedUnitsRow : OpenClaim := { program := "ytmpaccpkanlpiaa", sum := "7fca2a86cfefc01b3ec6efe15bb3f0cb5bd280d22faecc6000800c8dacf61fec", func := "loop.example/lib-g01426/laws.FnTurnedUnits", spec := "fnTurnedUnits", apart := false }
def FnTurnedUnitsSaid : Prop := fnTurnedUnitsRow.holds Try.pinned (OpenSpec.ofChange fnTurnedUnitsSpec)

/-- ITS FALSE NEIGHBOUR: 'it returns false'. Refute it at one input. -/
def fnTurnedUnitsWrong : ChangeSpec := { name := "fnTurnedUnits", fn := fun _ => fun
  | [d] => { results := [.lit (.bool false)], args := [d] }
  | _ => none }
def FnTurnedUnitsWrongFalsely : Prop := fnTurnedUnitsRow.holds Try.pinned (OpenSpec.ofChange fnTurnedUnitsWrong)

/-- 'laws.FnEncodeEach': WHATEVER THE INPUT: true; the input reads as it did. -/
def fnEncodeEachSpec : ChangeSpec := { name := "fnEncodeEach", fn := fun _ => fun
  | [d1, d2] => { results := [.lit (.bool true)], args := [d1, d2] }
  | _ => none }
def fnEncodeEachRow : OpenClaim := { program := "ytmpaccpkanlpiaa", sum := "7fca2a86cfefc01b3ec6efe15bb3f0cb5bd280d22faecc6000800c8dacf61fec", func := "loop.example/lib-g01426/laws.FnEncodeEach", spec := "fnEncodeEach", apart := false }
def FnEncodeEachSaid : Prop := fnEncodeEachRow.holds Try.pinned (OpenSpec.ofChange fnEncodeEachSpec)

/-- ITS FALSE NEIGHBOUR: 'it returns false'. Refute it at one input. -/
def fnEncodeEachWrong : ChangeSpec := { name := "fnEncodeEach", fn := fun _ => fun
  | [d1, d2] => { results := [.lit (.bool false)], args := [d1, d2] }
  | _ => none }
def FnEncodeEachWrongFalsely : Prop := fnEncodeEachRow.holds Try.pinned (OpenSpec.ofChange fnEncodeEachWrong)

/-- 'laws.FnSameAcross': WHATEVER THE INPUT: true; the input reads as it did. -/
def fnSameAcrossSpec : ChangeSpec := { name := "fnSameAcross", fn := fun _ => fun
  | [d1, d2] => { results := [.lit (.bool true)], args := [d1, d2] }
  | _ => none }
def fnSameAcrossRow : OpenClaim := { program := "ytmpaccpkanlpiaa", sum := "7fca2a86cfefc01b3ec6efe15bb3f0cb5bd280d22faecc6000800c8dacf61fec", func := "loop.example/lib-g01426/laws.FnSameAcross", spec := "fnSameAcross", apart := false }
def FnSameAcrossSaid : Prop := fnSameAcrossRow.holds Try.pinned (OpenSpec.ofChange fnSameAcrossSpec)

/-- ITS FALSE NEIGHBOUR: 'it returns false'. Refute it at one input. -/
def fnSameAcrossWrong : ChangeSpec := { name := "fnSameAcross", fn := fun _ => fun
  | [d1, d2] => { results := [.lit (.bool false)], args := [d1, d2] }
  | _ => none }
def FnSameAcrossWrongFalsely : Prop := fnSameAcrossRow.holds Try.pinned (OpenSpec.ofChange fnSameAcrossWrong)

/- THE SECOND FORM. 'bulk': how many values and letters a reading holds, each counted each time it is reached (what is shared counts as often as it is met; a slice's spare places count too). A statement '..UptoSaid' is the law's where the arguments, and the package variables that the reading takes, are together of bulk at most 1048576: NARROWER than '..Said'. Prove '..Said' where nothing that the law and all that it calls make is longer than what came in: it says more and counts as full. Else prove '..UptoSaid'. A law counts once. -/
mutual
def uptoBulk {H : Type} : DataW H → Nat
  | .lit (.string bytes) => bytes.length + 1
  | .lit _ => 1
  | .nil => 1
  | .ptr d => uptoBulk d + 1
  | .slice elems spare => uptoBulkAll elems + uptoBulkAll spare + 1
  | .agg parts => uptoBulkAll parts + 1
  | .iface _ d => uptoBulk d + 1
  | .map entries => uptoBulkEntries entries + 1
  | .held _ => 1
def uptoBulkAll {H : Type} : List (DataW H) → Nat
  | [] => 0
  | d :: r => uptoBulk d + uptoBulkAll r
def uptoBulkEntries {H : Type} : List (Lit × DataW H) → Nat
  | [] => 0
  | x :: r => uptoBulkEntry x + uptoBulkEntries r
def uptoBulkEntry {H : Type} : Lit × DataW H → Nat
  | (.string bytes, d) => bytes.length + uptoBulk d + 1
  | (_, d) => uptoBulk d + 1
 end
def uptoSmall : (H : Type) → List (DataW H) → Bool := fun _ ds => decide (uptoBulkAll ds ≤ 1048576)
def OpenSpec.upto (s : _root_.Go.ChangeSpec) : _root_.Go.OpenSpec := { _root_.Go.OpenSpec.ofChange s with cond := some uptoSmall }

/-- 'laws.FnSortedAlike', WHERE WHAT IT READS IS OF BULK AT MOST 1048576: true; the input reads as it did. -/
def fnSortedAlikeUptoRow : OpenClaim := { program := "ytmpaccpkanlpiaa", sum := "7fca2a86cfefc01b3ec6efe15bb3f0cb5bd280d22faecc6000800c8dacf61fec", func := "loop.example/lib-g01426/laws.FnSortedAlike", spec := "fnSortedAlike", apart := false, narrowed := true }
def FnSortedAlikeUptoSaid : Prop := fnSortedAlikeUptoRow.holds Try.pinned (OpenSpec.upto fnSortedAlikeSpec)

/-- 'laws.FnPairsWalk', WHERE WHAT IT READS IS OF BULK AT MOST 1048576: true; the input reads as it did. -/
def fnPairsWalkUptoRow : OpenClaim := { program := "ytmpaccpkanlpiaa", sum := "7fca2a86cfefc01b3ec6efe15bb3f0cb5bd280d22faecc6000800c8dacf61fec", func := "loop.example/lib-g01426/laws.FnPairsWalk", spec := "fnPairsWalk", apart := false, narrowed := true }
def FnPairsWalkUptoSaid : Prop := fnPairsWalkUptoRow.holds Try.pinned (OpenSpec.upto fnPairsWalkSpec)

/-- 'laws.FnLengthsAcross', WHERE WHAT IT READS IS OF BULK AT MOST 1048576: true; the input reads as it did. -/
def fnLengthsAcrossUptoRow : OpenClaim := { program := "ytmpaccpkanlpiaa", sum := "7fca2a86cfefc01b3ec6efe15bb3f0cb5bd280d22faecc6000800c8dacf61fec", func := "loop.example/lib-g01426/laws.FnLengthsAcross", spec := "fnLengthsAcross", apart := false, narrowed := true }
def FnLengthsAcrossUptoSaid : Prop := fnLengthsAcrossUptoRow.holds Try.pinned (OpenSpec.upto fnLengthsAcrossSpec)

/-- 'laws.FnPlacesOfStarts', WHERE WHAT IT READS IS OF BULK AT MOST 1048576: true; the input reads as it did. -/
def fnPlacesOfStartsUptoRow : OpenClaim := { program := "ytmpaccpkanlpiaa", sum := "7fca2a86cfefc01b3ec6efe15bb3f0cb5bd280d22faecc6000800c8dacf61fec", func := "loop.example/lib-g01426/laws.FnPlacesOfStarts", spec := "fnPlacesOfStarts", apart := false, narrowed := true }
def FnPlacesOfStartsUptoSaid : Prop := fnPlacesOfStartsUptoRow.holds Try.pinned (OpenSpec.upto fnPlacesOfStartsSpec)

/-- 'laws.FnUnitCuts', WHERE WHAT IT READS IS OF BULK AT MOST 1048576: true; the input reads as it did. -/
def fnUnitCutsUptoRow : OpenClaim := { program := "ytmpaccpkanlpiaa", sum := "7fca2a86cfefc01b3ec6efe15bb3f0cb5bd280d22faecc6000800c8dacf61fec", func := "loop.example/lib-g01426/laws.FnUnitCuts", spec := "fnUnitCuts", apart := false, narrowed := true }
def FnUnitCutsUptoSaid : Prop := fnUnitCutsUptoRow.holds Try.pinned (OpenSpec.upto fnUnitCutsSpec)

/-- 'laws.FnBeginAcross', WHERE WHAT IT READS IS OF BULK AT MOST 1048576: true; the input reads as it did. -/
def fnBeginAcrossUptoRow : OpenClaim := { program := "ytmpaccpkanlpiaa", sum := "7fca2a86cfefc01b3ec6efe15bb3f0cb5bd280d22faecc6000800c8dacf61fec", func := "loop.example/lib-g01426/laws.FnBeginAcross", spec := "fnBeginAcross", apart := false, narrowed := true }
def FnBeginAcrossUptoSaid : Prop := fnBeginAcrossUptoRow.holds Try.pinned (OpenSpec.upto fnBeginAcrossSpec)

/-- 'laws.FnFoundAcross', WHERE WHAT IT READS IS OF BULK AT MOST 1048576: true; the input reads as it did. -/
def fnFoundAcrossUptoRow : OpenClaim := { program := "ytmpaccpkanlpiaa", sum := "7fca2a86cfefc01b3ec6efe15bb3f0cb5bd280d22faecc6000800c8dacf61fec", func := "loop.example/lib-g01426/laws.FnFoundAcross", spec := "fnFoundAcross", apart := false, narrowed := true }
def FnFoundAcrossUptoSaid : Prop := fnFoundAcrossUptoRow.holds Try.pinned (OpenSpec.upto fnFoundAcrossSpec)

/-- 'laws.FnOrdersAcross', WHERE WHAT IT READS IS OF BULK AT MOST 1048576: true; the input reads as it did. -/
def fnOrdersAcrossUptoRow : OpenClaim := { program := "ytmpaccpkanlpiaa", sum := "7fca2a86cfefc01b3ec6efe15bb3f0cb5bd280d22faecc6000800c8dacf61fec", func := "loop.example/lib-g01426/laws.FnOrdersAcross", spec := "fnOrdersAcross", apart := false, narrowed := true }
def FnOrdersAcrossUptoSaid : Prop := fnOrdersAcrossUptoRow.holds Try.pinned (OpenSpec.upto fnOrdersAcrossSpec)

/-- 'laws.FnPlainOrder', WHERE WHAT IT READS IS OF BULK AT MOST 1048576: true; the input reads as it did. -/
def fnPlainOrderUptoRow : OpenClaim := { program := "ytmpaccpkanlpiaa", sum := "7fca2a86cfefc01b3ec6efe15bb3f0cb5bd280d22faecc6000800c8dacf61fec", func := "loop.example/lib-g01426/laws.FnPlainOrder", spec := "fnPlainOrder", apart := false, narrowed := true }
def FnPlainOrderUptoSaid : Prop := fnPlainOrderUptoRow.holds Try.pinned (OpenSpec.upto fnPlainOrderSpec)

/-- 'laws.FnCountsOfCuts', WHERE WHAT IT READS IS OF BULK AT MOST 1048576: true; the input reads as it did. -/
def fnCountsOfCutsUptoRow : OpenClaim := { program := "ytmpaccpkanlpiaa", sum := "7fca2a86cfefc01b3ec6efe15bb3f0cb5bd280d22faecc6000800c8dacf61fec", func := "loop.example/lib-g01426/laws.FnCountsOfCuts", spec := "fnCountsOfCuts", apart := false, narrowed := true }
def FnCountsOfCutsUptoSaid : Prop := fnCountsOfCutsUptoRow.holds Try.pinned (OpenSpec.upto fnCountsOfCutsSpec)

/-- 'laws.FnPairsAcross', WHERE WHAT IT READS IS OF BULK AT MOST 1048576: true; the input reads as it did. -/
def fnPairsAcrossUptoRow : OpenClaim := { program := "ytmpaccpkanlpiaa", sum := "7fca2a86cfefc01b3ec6efe15bb3f0cb5bd280d22faecc6000800c8dacf61fec", func := "loop.example/lib-g01426/laws.FnPairsAcross", spec := "fnPairsAcross", apart := false, narrowed := true }
def FnPairsAcrossUptoSaid : Prop := fnPairsAcrossUptoRow.holds Try.pinned (OpenSpec.upto fnPairsAcrossSpec)

/-- 'laws.FnTurnedUnits', WHERE WHAT IT READS IS OF BULK AT MOST 1048576: true; the input reads as it did. -/
def fnTurnedUnitsUptoRow : OpenClaim := { program := "ytmpaccpkanlpiaa", sum := "7fca2a86cfefc01b3ec6efe15bb3f0cb5bd280d22faecc6000800c8dacf61fec", func := "loop.example/lib-g01426/laws.FnTurnedUnits", spec := "fnTurnedUnits", apart := false, narrowed := true }
def FnTurnedUnitsUptoSaid : Prop := fnTurnedUnitsUptoRow.holds Try.pinned (OpenSpec.upto fnTurnedUnitsSpec)

/-- 'laws.FnEncodeEach', WHERE WHAT IT READS IS OF BULK AT MOST 1048576: true; the input reads as it did. -/
def fnEncodeEachUptoRow : OpenClaim := { program := "ytmpaccpkanlpiaa", sum := "7fca2a86cfefc01b3ec6efe15bb3f0cb5bd280d22faecc6000800c8dacf61fec", func := "loop.example/lib-g01426/laws.FnEncodeEach", spec := "fnEncodeEach", apart := false, narrowed := true }
def FnEncodeEachUptoSaid : Prop := fnEncodeEachUptoRow.holds Try.pinned (OpenSpec.upto fnEncodeEachSpec)

/-- 'laws.FnSameAcross', WHERE WHAT IT READS IS OF BULK AT MOST 1048576: true; the input reads as it did. -/
def fnSameAcrossUptoRow : OpenClaim := { program := "ytmpaccpkanlpiaa", sum := "7fca2a86cfefc01b3ec6efe15bb3f0cb5bd280d22faecc6000800c8dacf61fec", func := "loop.example/lib-g01426/laws.FnSameAcross", spec := "fnSameAcross", apart := false, narrowed := true }
def FnSameAcrossUptoSaid : Prop := fnSameAcrossUptoRow.holds Try.pinned (OpenSpec.upto fnSameAcrossSpec)

end Rows
end Go.Proofs.Ytmpaccpkanlpiaa
