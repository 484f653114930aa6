/-
  No cell of these rows narrows 'for every input' (looked for: loops, veiled, ifaces, maps, wideKeys, modest, calm, conditions, laid).
  DERIVED. THE GIVEN ROWS OF THIS SEAT. 4 by the template 'for every input the law returns true; each argument reads behind the call as it read before'; 0 by the template 'total and deterministic' (their statements: YtlbdhfpakajdaaaTotals.lean).
  GIVEN WITH THE SEED: the statements are not yours to turn. If you find one false, say at which input.
  Laid BY PROGRAM, IN A SANDBOX (cutbox-rows.mjs): the forced cells as the released guide's own fill.sh prints them over the translation ab0535ceb18c10c1… (all of the seat's roots in one cut). By AI agents, Wed Nov 11 2026. No macro, syntax, notation, axiom, sorry.
-/
import Derived.Test.YtlbdhfpakajdaaaChecked
import GoSem.Claim
import GoSem.ClaimJoined
import GoSem.ClaimMapViews
import Derived.JoinedTies
import Derived.KernelRfl
namespace Go.Proofs.Ytlbdhfpakajdaaa
/- THE CELL 'sum', in the pinned program and in every row, IS THE sha256 OF THE DUMP (.gsa) THAT YtlbdhfpakajdaaaProg.lean LOADS. Nothing in Lean hashes anything: it is a label: what it is worth is what the hold of that sum in a sandbox is worth. -/
noncomputable def Try.pinned : Pinned := { name := "ytlbdhfpakajdaaa", sum := "ab0535ceb18c10c149bd40b640104bc5fe67c36fcb764e3f35d476940c68f63b", checked := Try.checked }
namespace Rows
def none {H : Type} : Left H := { results := [], args := [] }

/-- 'laws.FnSortedAlike': WHATEVER THE INPUT: true; the input reads as it did. -/
def fnSortedAlikeSpec : ChangeSpec := { name := "fnSortedAlike", fn := fun _ => fun
  | [d] => { results := [.lit (.bool true)], args := [d] }
  | _ => none }
def fnSortedAlikeRow : OpenClaim := { program := "ytlbdhfpakajdaaa", sum := "ab0535ceb18c10c149bd40b640104bc5fe67c36fcb764e3f35d476940c68f63b", func := "loop.example/lib-g01426/laws.FnSortedAlike", spec := "fnSortedAlike", apart := false }
def FnSortedAlikeSaid : Prop := fnSortedAlikeRow.holds Try.pinned (OpenSpec.ofChange fnSortedAlikeSpec)

/-- ITS FALSE NEIGHBOUR: 'it returns false'. Refute it at one input. -/
def fnSortedAlikeWrong : ChangeSpec := { name := "fnSortedAlike", fn := fun _ => fun
  | [d] => { results := [.lit (.bool false)], args := [d] }
  | _ => none }
def FnSortedAlikeWrongFalsely : Prop := fnSortedAlikeRow.holds Try.pinned (OpenSpec.ofChange fnSortedAlikeWrong)

/-- 'laws.FnCountsOfCuts': WHATEVER THE INPUT: true; the input reads as it did. -/
def fnCountsOfCutsSpec : ChangeSpec := { name := "fnCountsOfCuts", fn := fun _ => fun
  | [d] => { results := [.lit (.bool true)], args := [d] }
  | _ => none }
def fnCountsOfCutsRow : OpenClaim := { program := "ytlbdhfpakajdaaa", sum := "ab0535ceb18c10c149bd40b640104bc5fe67c36fcb764e3f35d476940c68f63b", func := "loop.example/lib-g01426/laws.FnCountsOfCuts", spec := "fnCountsOfCuts", apart := false }
def FnCountsOfCutsSaid : Prop := fnCountsOfCutsRow.holds Try.pinned (OpenSpec.ofChange fnCountsOfCutsSpec)

/-- ITS FALSE NEIGHBOUR: 'it returns false'. Refute it at one input. -/
def fnCountsOfCutsWrong : ChangeSpec := { name := "fnCountsOfCuts", fn := fun _ => fun
  | [d] => { results := [.lit (.bool false)], args := [d] }
  | _ => none }
def FnCountsOfCutsWrongFalsely : Prop := fnCountsOfCutsRow.holds Try.pinned (OpenSpec.ofChange fnCountsOfCutsWrong)

/-- 'laws.FnTurnedUnits': WHATEVER THE INPUT: true; the input reads as it did. -/
def fnTurnedUnitsSpec : ChangeSpec := { name := "fnTurnedUnits", fn := fun _ => fun
  | [d] => { results := [.lit (.bool true)], args := [d] }
  | _ => none }
def fnTurnedUnitsRow : OpenClaim := { program := "ytlbdhfpakajdaaa", sum := "ab0535ceb18c10c149bd40b640104bc5fe67c36fcb764e3f35d476940c68f63b", func := "loop.example/lib-g01426/laws.FnTurnedUnits", spec := "fnTurnedUnits", apart := false }
def FnTurnedUnitsSaid : Prop := fnTurnedUnitsRow.holds Try.pinned (OpenSpec.ofChange fnTurnedUnitsSpec)

/-- ITS FALSE NEIGHBOUR: 'it returns false'. Refute it at one input. -/
def fnTurnedUnitsWrong : ChangeSpec := { name := "fnTurnedUnits", fn := fun _ => fun
  | [d] => { results := [.lit (.bool false)], args := [d] }
  | _ => none }
def FnTurnedUnitsWrongFalsely : Prop := fnTurnedUnitsRow.holds Try.pinned (OpenSpec.ofChange fnTurnedUnitsWrong)

/-- 'laws.FnEncodeEach': WHATEVER THE INPUT: true; the input reads as it did. -/
def fnEncodeEachSpec : ChangeSpec := { name := "fnEncodeEach", fn := fun _ => fun
  | [d1, d2] => { results := [.lit (.bool true)], args := [d1, d2] }
  | _ => none }
def fnEncodeEachRow : OpenClaim := { program := "ytlbdhfpakajdaaa", sum := "ab0535ceb18c10c149bd40b640104bc5fe67c36fcb764e3f35d476940c68f63b", func := "loop.example/lib-g01426/laws.FnEncodeEach", spec := "fnEncodeEach", apart := false }
def FnEncodeEachSaid : Prop := fnEncodeEachRow.holds Try.pinned (OpenSpec.ofChange fnEncodeEachSpec)

/-- ITS FALSE NEIGHBOUR: 'it returns false'. Refute it at one input. -/
def fnEncodeEachWrong : ChangeSpec := { name := "fnEncodeEach", fn := fun _ => fun
  | [d1, d2] => { results := [.lit (.bool false)], args := [d1, d2] }
  | _ => none }
def FnEncodeEachWrongFalsely : Prop := fnEncodeEachRow.holds Try.pinned (OpenSpec.ofChange fnEncodeEachWrong)

/- THE SECOND FORM. 'bulk': how many values and letters a reading holds, each counted each time it is reached (what is shared counts as often as it is met; a slice's spare places count too). A statement '..UptoSaid' is the law's where the arguments, and the package variables that the reading takes, are together of bulk at most 1048576: NARROWER than '..Said'. Prove '..Said' where nothing that the law and all that it calls make is longer than what came in: it says more and counts as full. Else prove '..UptoSaid'. A law counts once. -/
mutual
def uptoBulk {H : Type} : DataW H → Nat
  | .lit (.string bytes) => bytes.length + 1
  | .lit _ => 1
  | .nil => 1
  | .ptr d => uptoBulk d + 1
  | .slice elems spare => uptoBulkAll elems + uptoBulkAll spare + 1
  | .agg parts => uptoBulkAll parts + 1
  | .iface _ d => uptoBulk d + 1
  | .map entries => uptoBulkEntries entries + 1
  | .held _ => 1
def uptoBulkAll {H : Type} : List (DataW H) → Nat
  | [] => 0
  | d :: r => uptoBulk d + uptoBulkAll r
def uptoBulkEntries {H : Type} : List (Lit × DataW H) → Nat
  | [] => 0
  | x :: r => uptoBulkEntry x + uptoBulkEntries r
def uptoBulkEntry {H : Type} : Lit × DataW H → Nat
  | (.string bytes, d) => bytes.length + uptoBulk d + 1
  | (_, d) => uptoBulk d + 1
 end
def uptoSmall : (H : Type) → List (DataW H) → Bool := fun _ ds => decide (uptoBulkAll ds ≤ 1048576)
def OpenSpec.upto (s : _root_.Go.ChangeSpec) : _root_.Go.OpenSpec := { _root_.Go.OpenSpec.ofChange s with cond := some uptoSmall }

/-- 'laws.FnSortedAlike', WHERE WHAT IT READS IS OF BULK AT MOST 1048576: true; the input reads as it did. -/
def fnSortedAlikeUptoRow : OpenClaim := { program := "ytlbdhfpakajdaaa", sum := "ab0535ceb18c10c149bd40b640104bc5fe67c36fcb764e3f35d476940c68f63b", func := "loop.example/lib-g01426/laws.FnSortedAlike", spec := "fnSortedAlike", apart := false, narrowed := true }
def FnSortedAlikeUptoSaid : Prop := fnSortedAlikeUptoRow.holds Try.pinned (OpenSpec.upto fnSortedAlikeSpec)

/-- 'laws.FnCountsOfCuts', WHERE WHAT IT READS IS OF BULK AT MOST 1048576: true; the input reads as it did. -/
def fnCountsOfCutsUptoRow : OpenClaim := { program := "ytlbdhfpakajdaaa", sum := "ab0535ceb18c10c149bd40b640104bc5fe67c36fcb764e3f35d476940c68f63b", func := "loop.example/lib-g01426/laws.FnCountsOfCuts", spec := "fnCountsOfCuts", apart := false, narrowed := true }
def FnCountsOfCutsUptoSaid : Prop := fnCountsOfCutsUptoRow.holds Try.pinned (OpenSpec.upto fnCountsOfCutsSpec)

/-- 'laws.FnTurnedUnits', WHERE WHAT IT READS IS OF BULK AT MOST 1048576: true; the input reads as it did. -/
def fnTurnedUnitsUptoRow : OpenClaim := { program := "ytlbdhfpakajdaaa", sum := "ab0535ceb18c10c149bd40b640104bc5fe67c36fcb764e3f35d476940c68f63b", func := "loop.example/lib-g01426/laws.FnTurnedUnits", spec := "fnTurnedUnits", apart := false, narrowed := true }
def FnTurnedUnitsUptoSaid : Prop := fnTurnedUnitsUptoRow.holds Try.pinned (OpenSpec.upto fnTurnedUnitsSpec)

/-- 'laws.FnEncodeEach', WHERE WHAT IT READS IS OF BULK AT MOST 1048576: true; the input reads as it did. -/
def fnEncodeEachUptoRow : OpenClaim := { program := "ytlbdhfpakajdaaa", sum := "ab0535ceb18c10c149bd40b640104bc5fe67c36fcb764e3f35d476940c68f63b", func := "loop.example/lib-g01426/laws.FnEncodeEach", spec := "fnEncodeEach", apart := false, narrowed := true }
def FnEncodeEachUptoSaid : Prop := fnEncodeEachUptoRow.holds Try.pinned (OpenSpec.upto fnEncodeEachSpec)

end Rows
end Go.Proofs.Ytlbdhfpakajdaaa
