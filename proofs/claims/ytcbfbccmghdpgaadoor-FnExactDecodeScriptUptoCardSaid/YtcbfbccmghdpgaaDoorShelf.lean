import Derived.Shelf.Lay
import Derived.Shelf.LaySoft
import Derived.Shelf.Spec.DecodeLastRune
import Derived.Shelf.Spec.NilArms
import Derived.Test.YtcbfbccmghdpgaaDoorProg
namespace Go.Proofs
open Go.Shelf
shelf_try shelf_lay Lays7.n32 Nm7 32 at Tryd as Tryd.lays732
shelf_try shelf_lay Lays7.n33 Nm7 33 at Tryd as Tryd.lays733
shelf_try open Go.RowKit Go.Lib in
theorem Tryd.utf8_DecodeRune (s : ByteArray) (b off cap : Nat) (w : World) (hT : Lib.Utf8Tabs 0 1 w) (hp : ∀ j, j < s.size → w.cell? ⟨b, off + j, none⟩ = some (.int .u8 (s.get! j).toNat)) :
    Calls Tryd.prog 56 #[.slice (some ⟨b, off, none⟩) s.size cap] w fun e w' => e = .returned (.tuple #[.int .i32 (Lib.decodeGo s).1, .int .i64 (Lib.decodeGo s).2]) ∧ Below w.heap.size w w' := Any7.utf8_DecodeRune Tryd.lays732 s b off cap w hT hp
shelf_try open Go.RowKit Go.Lib in
theorem Tryd.utf8_DecodeRune_nil (w : World) :
    Calls Tryd.prog 56 #[.slice none 0 0] w fun e w' => e = .returned (.tuple #[.int .i32 65533, .int .i64 0]) ∧ w' = w := Any7.utf8_DecodeRune_nil Tryd.lays732 w
shelf_try open Go.RowKit Go.Lib in
theorem Tryd.utf8_DecodeLastRune (s : ByteArray) (b off cap : Nat) (w : World) (hcap : s.size ≤ cap) (hp : ∀ j, j < s.size → w.cell? ⟨b, off + j, none⟩ = some (.int .u8 (s.get! j).toNat)) (hs : s.size ≤ 9223372036854775807) (hT : Lib.Utf8Tabs 0 1 w) :
    Calls Tryd.prog 57 #[.slice (some ⟨b, off, none⟩) s.size cap] w fun e w' => e = .returned (.tuple #[.int .i32 (Lib.decodeLastL s.data.toList).1, .int .i64 (Lib.decodeLastL s.data.toList).2]) ∧ Below w.heap.size w w' := Any7.utf8_DecodeLastRune Tryd.lays733 s b off cap w hcap hp hs hT
shelf_try open Go.RowKit Go.Lib in
theorem Tryd.utf8_DecodeLastRune_nil (w : World) :
    Calls Tryd.prog 57 #[.slice none 0 0] w fun e w' => e = .returned (.tuple #[.int .i32 65533, .int .i64 0]) ∧ w' = w := Any7.utf8_DecodeLastRune_nil Tryd.lays733 w
shelf_tried
end Go.Proofs
