/-
  DERIVED: THE SHELF's CONTRACTS AT THIS DUMP, IN PLAIN WORDS (tools/lay-plain.mjs out of 'YtbjigbhjnmcdgaaDoorShelf.lean', which tools/lay-shelf.mjs wrote): THE SAME DECLARATIONS UNDER THE SAME NAMES: 'import', 'namespace', 'open', 'def', 'theorem' AND NOTHING ELSE: no command of the shelf: FOR A HAND-IN. Each laying: the table of numbers ('.._ren') and one theorem, a field a fact of the dump's own or the kernel's comparison; each contract: ONE APPLICATION.
-/
import Derived.Shelf.Spec.DecodeLastRune
import Derived.Shelf.Spec.NilArms
import Derived.Test.YtbjigbhjnmcdgaaDoorProg
namespace Go.Proofs
open Go.Shelf
def Tryd.lays732_ren : Go.Shelf.Ren := ⟨fun | 32 => 22 | 49 => 31 | n => n, fun | 30 => 22 | 21 => 21 | 3 => 3 | 0 => 0 | 5 => 5 | 4 => 4 | 33 => 45 | 66 => 53 | 25 => 57 | 69 => 56 | 68 => 55 | n => n, fun | 2 => 0 | 3 => 1 | n => n⟩
theorem Tryd.lays732 : Go.Proofs.Lays7.n32 Tryd.prog Tryd.lays732_ren := {
  mixed := by kernel_rfl
  f32 := Tryd.func22.trans (congrArg some (by kernel_rfl))
  f49 := Tryd.func31.trans (congrArg some (by kernel_rfl))
  t0 := Tryd.underlying0
  a0 := Tryd.isAgg0
  z0 := Tryd.sizeOf0
  v0 := Tryd.zeroValue0
  i0 := by kernel_rfl
  t3 := Tryd.underlying3
  a3 := Tryd.isAgg3
  z3 := Tryd.sizeOf3
  v3 := Tryd.zeroValue3
  i3 := by kernel_rfl
  t4 := Tryd.underlying4
  a4 := Tryd.isAgg4
  z4 := Tryd.sizeOf4
  v4 := Tryd.zeroValue4
  i4 := by kernel_rfl
  t5 := Tryd.underlying5
  a5 := Tryd.isAgg5
  z5 := Tryd.sizeOf5
  v5 := Tryd.zeroValue5
  i5 := by kernel_rfl
  t21 := Tryd.underlying21
  a21 := Tryd.isAgg21
  z21 := Tryd.sizeOf21
  v21 := Tryd.zeroValue21
  i21 := by kernel_rfl
  t25 := Tryd.underlying57
  a25 := Tryd.isAgg57
  z25 := Tryd.sizeOf57
  v25 := Tryd.zeroValue57
  i25 := by kernel_rfl
  t30 := Tryd.underlying22
  a30 := Tryd.isAgg22
  z30 := Tryd.sizeOf22
  v30 := Tryd.zeroValue22
  i30 := by kernel_rfl
  t33 := Tryd.underlying45
  a33 := Tryd.isAgg45
  z33 := Tryd.sizeOf45
  v33 := Tryd.zeroValue45
  i33 := by kernel_rfl
  t66 := Tryd.underlying53
  a66 := Tryd.isAgg53
  z66 := Tryd.sizeOf53
  t68 := Tryd.underlying55
  a68 := Tryd.isAgg55
  z68 := Tryd.sizeOf55
  v68 := Tryd.zeroValue55
  i68 := by kernel_rfl
  t69 := Tryd.underlying56
  a69 := Tryd.isAgg56
  z69 := Tryd.sizeOf56
  v69 := Tryd.zeroValue56
  i69 := by kernel_rfl
  g2 := by kernel_rfl
  g3 := by kernel_rfl }
def Tryd.lays733_ren : Go.Shelf.Ren := ⟨fun | 33 => 23 | 50 => 32 | 32 => 22 | 49 => 31 | n => n, fun | 30 => 22 | 21 => 21 | 3 => 3 | 4 => 4 | 0 => 0 | 5 => 5 | 33 => 45 | 66 => 53 | 25 => 57 | 69 => 56 | 68 => 55 | n => n, fun | 2 => 0 | 3 => 1 | n => n⟩
theorem Tryd.lays733 : Go.Proofs.Lays7.n33 Tryd.prog Tryd.lays733_ren := {
  mixed := by kernel_rfl
  f32 := Tryd.func22.trans (congrArg some (by kernel_rfl))
  f33 := Tryd.func23.trans (congrArg some (by kernel_rfl))
  f49 := Tryd.func31.trans (congrArg some (by kernel_rfl))
  f50 := Tryd.func32.trans (congrArg some (by kernel_rfl))
  t0 := Tryd.underlying0
  a0 := Tryd.isAgg0
  z0 := Tryd.sizeOf0
  v0 := Tryd.zeroValue0
  i0 := by kernel_rfl
  t3 := Tryd.underlying3
  a3 := Tryd.isAgg3
  z3 := Tryd.sizeOf3
  v3 := Tryd.zeroValue3
  i3 := by kernel_rfl
  t4 := Tryd.underlying4
  a4 := Tryd.isAgg4
  z4 := Tryd.sizeOf4
  v4 := Tryd.zeroValue4
  i4 := by kernel_rfl
  t5 := Tryd.underlying5
  a5 := Tryd.isAgg5
  z5 := Tryd.sizeOf5
  v5 := Tryd.zeroValue5
  i5 := by kernel_rfl
  t21 := Tryd.underlying21
  a21 := Tryd.isAgg21
  z21 := Tryd.sizeOf21
  v21 := Tryd.zeroValue21
  i21 := by kernel_rfl
  t25 := Tryd.underlying57
  a25 := Tryd.isAgg57
  z25 := Tryd.sizeOf57
  v25 := Tryd.zeroValue57
  i25 := by kernel_rfl
  t30 := Tryd.underlying22
  a30 := Tryd.isAgg22
  z30 := Tryd.sizeOf22
  v30 := Tryd.zeroValue22
  i30 := by kernel_rfl
  t33 := Tryd.underlying45
  a33 := Tryd.isAgg45
  z33 := Tryd.sizeOf45
  v33 := Tryd.zeroValue45
  i33 := by kernel_rfl
  t66 := Tryd.underlying53
  a66 := Tryd.isAgg53
  z66 := Tryd.sizeOf53
  t68 := Tryd.underlying55
  a68 := Tryd.isAgg55
  z68 := Tryd.sizeOf55
  v68 := Tryd.zeroValue55
  i68 := by kernel_rfl
  t69 := Tryd.underlying56
  a69 := Tryd.isAgg56
  z69 := Tryd.sizeOf56
  v69 := Tryd.zeroValue56
  i69 := by kernel_rfl
  g2 := by kernel_rfl
  g3 := by kernel_rfl }
open Go.RowKit Go.Lib in
theorem Tryd.utf8_DecodeRune (s : ByteArray) (b off cap : Nat) (w : World) (hT : Lib.Utf8Tabs 0 1 w) (hp : ∀ j, j < s.size → w.cell? ⟨b, off + j, none⟩ = some (.int .u8 (s.get! j).toNat)) :
    Calls Tryd.prog 22 #[.slice (some ⟨b, off, none⟩) s.size cap] w fun e w' => e = .returned (.tuple #[.int .i32 (Lib.decodeGo s).1, .int .i64 (Lib.decodeGo s).2]) ∧ Below w.heap.size w w' := Any7.utf8_DecodeRune Tryd.lays732 s b off cap w hT hp
open Go.RowKit Go.Lib in
theorem Tryd.utf8_DecodeRune_nil (w : World) :
    Calls Tryd.prog 22 #[.slice none 0 0] w fun e w' => e = .returned (.tuple #[.int .i32 65533, .int .i64 0]) ∧ w' = w := Any7.utf8_DecodeRune_nil Tryd.lays732 w
open Go.RowKit Go.Lib in
theorem Tryd.utf8_DecodeLastRune (s : ByteArray) (b off cap : Nat) (w : World) (hcap : s.size ≤ cap) (hp : ∀ j, j < s.size → w.cell? ⟨b, off + j, none⟩ = some (.int .u8 (s.get! j).toNat)) (hs : s.size ≤ 9223372036854775807) (hT : Lib.Utf8Tabs 0 1 w) :
    Calls Tryd.prog 23 #[.slice (some ⟨b, off, none⟩) s.size cap] w fun e w' => e = .returned (.tuple #[.int .i32 (Lib.decodeLastL s.data.toList).1, .int .i64 (Lib.decodeLastL s.data.toList).2]) ∧ Below w.heap.size w w' := Any7.utf8_DecodeLastRune Tryd.lays733 s b off cap w hcap hp hs hT
open Go.RowKit Go.Lib in
theorem Tryd.utf8_DecodeLastRune_nil (w : World) :
    Calls Tryd.prog 23 #[.slice none 0 0] w fun e w' => e = .returned (.tuple #[.int .i32 65533, .int .i64 0]) ∧ w' = w := Any7.utf8_DecodeLastRune_nil Tryd.lays733 w
end Go.Proofs
