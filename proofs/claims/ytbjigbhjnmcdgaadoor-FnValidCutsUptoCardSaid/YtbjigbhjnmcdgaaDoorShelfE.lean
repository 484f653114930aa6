/-
  DERIVED: THE SHELF's CONTRACTS AT THIS DUMP, IN PLAIN WORDS (tools/lay-plain.mjs out of 'YtbjigbhjnmcdgaaDoorShelfE.lean', which tools/lay-shelf.mjs wrote): THE SAME DECLARATIONS UNDER THE SAME NAMES: 'import', 'namespace', 'open', 'def', 'theorem' AND NOTHING ELSE: no command of the shelf: FOR A HAND-IN. Each laying: the table of numbers ('.._ren') and one theorem, a field a fact of the dump's own or the kernel's comparison; each contract: ONE APPLICATION.
-/
import Derived.Shelf.Spec.RuneCount
import Derived.Shelf.Spec.NilArms
import Derived.Test.YtbjigbhjnmcdgaaDoorProg
namespace Go.Proofs
open Go.Shelf
def Tryd.lays731_ren : Go.Shelf.Ren := ⟨fun | 31 => 29 | 48 => 36 | n => n, fun | 30 => 22 | 3 => 3 | 4 => 4 | 0 => 0 | 5 => 5 | 9 => 9 | n => n, fun | n => n⟩
theorem Tryd.lays731 : Go.Proofs.Lays7.n31 Tryd.prog Tryd.lays731_ren := {
  mixed := by kernel_rfl
  f31 := Tryd.func29.trans (congrArg some (by kernel_rfl))
  f48 := Tryd.func36.trans (congrArg some (by kernel_rfl))
  t0 := Tryd.underlying0
  a0 := Tryd.isAgg0
  z0 := Tryd.sizeOf0
  v0 := Tryd.zeroValue0
  i0 := by kernel_rfl
  t3 := Tryd.underlying3
  a3 := Tryd.isAgg3
  z3 := Tryd.sizeOf3
  v3 := Tryd.zeroValue3
  i3 := by kernel_rfl
  t4 := Tryd.underlying4
  a4 := Tryd.isAgg4
  z4 := Tryd.sizeOf4
  v4 := Tryd.zeroValue4
  i4 := by kernel_rfl
  t5 := Tryd.underlying5
  a5 := Tryd.isAgg5
  z5 := Tryd.sizeOf5
  v5 := Tryd.zeroValue5
  i5 := by kernel_rfl
  t9 := Tryd.underlying9
  a9 := Tryd.isAgg9
  z9 := Tryd.sizeOf9
  v9 := Tryd.zeroValue9
  i9 := by kernel_rfl
  t30 := Tryd.underlying22
  a30 := Tryd.isAgg22
  z30 := Tryd.sizeOf22
  v30 := Tryd.zeroValue22
  i30 := by kernel_rfl }
open Go.RowKit Go.Lib in
theorem Tryd.utf8_RuneCount (s : ByteArray) (b off cap : Nat) (w : World) (hcap : s.size ≤ cap) (hp : ∀ j, j < s.size → w.cell? ⟨b, off + j, none⟩ = some (.int .u8 (s.get! j).toNat)) (hs : s.size < 9223372036854775807) :
    Calls Tryd.prog 29 #[.slice (some ⟨b, off, none⟩) s.size cap] w fun e w' => e = .returned (.int .i64 (Lib.runeCount s)) ∧ (w' = w ∨ ∃ t pos, w' = w.iter t pos) := Any7.utf8_RuneCount Tryd.lays731 s b off cap w hcap hp hs
open Go.RowKit Go.Lib in
theorem Tryd.utf8_RuneCount_nil (w : World) :
    Calls Tryd.prog 29 #[.slice none 0 0] w fun e w' => e = .returned (.int .i64 0) ∧ w' = w := Any7.utf8_RuneCount_nil Tryd.lays731 w
end Go.Proofs
