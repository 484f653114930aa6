/- For the lifts over a door seat: the tables, and a world for the witness. -/
import Derived.Test.YtbjigbhjnmcdgaaDoorLift
import Derived.Test.YtbjigbhjnmcdgaaDoorTabs
import Derived.Test.YtbjigbhjnmcdgaaDoorCards
import Derived.Test.YtbjigbhjnmcdgaaDoorTie
import Derived.WalkKit
import Derived.Deep.DeepHandedRow
import Derived.Lib.LaidTab
set_option linter.unusedVariables false
namespace Go.Proofs.YtbjigbhjnmcdgaaDoor
open Go.ChangeShapes Go.WideShapes Go.ChangeAt Go.RowKit

def rangesTab : List Int := (List.range 16).flatMap fun i => [(Lib.accLo i : Int), (Lib.accHi i : Int)]
def setCells (zs : List Int) : Obj → Obj
  | .cells _ t frozen => .cells (zs.map (Value.int .u8)).toArray t frozen
  | o => o
/-- the settled world, the two tables holding what their initialisers lay -/
noncomputable def laidWorld (os : Os) : World :=
  { World.holding Tryd.prog os ⟨#[], #[], []⟩ with heap := Array.modify (Array.modify (World.holding Tryd.prog os ⟨#[], #[], []⟩).heap 0 (setCells Lib.firstTab)) 1 (setCells rangesTab) }
end Go.Proofs.YtbjigbhjnmcdgaaDoor
