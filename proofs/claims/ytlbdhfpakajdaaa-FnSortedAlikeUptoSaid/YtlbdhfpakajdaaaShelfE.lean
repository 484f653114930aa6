/-
  DERIVED: THE SHELF's CONTRACTS AT THIS DUMP, IN PLAIN WORDS (tools/lay-plain.mjs out of 'YtlbdhfpakajdaaaShelfE.lean', which tools/lay-shelf.mjs wrote): THE SAME DECLARATIONS UNDER THE SAME NAMES: 'import', 'namespace', 'open', 'def', 'theorem' AND NOTHING ELSE: no command of the shelf: FOR A HAND-IN. Each laying: the table of numbers ('.._ren') and one theorem, a field a fact of the dump's own or the kernel's comparison; each contract: ONE APPLICATION.
-/
import Derived.Shelf.Spec.EncodeRune
import Derived.Shelf.Spec.RuneCount
import Derived.Shelf.Spec.NilArms
import Derived.Test.YtlbdhfpakajdaaaProg
namespace Go.Proofs
open Go.Shelf
def Try.lays730_ren : Go.Shelf.Ren := ⟨fun | 30 => 20 | 47 => 27 | n => n, fun | 30 => 26 | 21 => 21 | 3 => 3 | 27 => 46 | 4 => 4 | 5 => 5 | 0 => 0 | 25 => 51 | n => n, fun | n => n⟩
theorem Try.lays730 : Go.Proofs.Lays7.n30 Try.prog Try.lays730_ren := {
  mixed := by kernel_rfl
  f30 := Try.func20.trans (congrArg some (by kernel_rfl))
  f47 := Try.func27.trans (congrArg some (by kernel_rfl))
  t0 := Try.underlying0
  a0 := Try.isAgg0
  z0 := Try.sizeOf0
  v0 := Try.zeroValue0
  i0 := by kernel_rfl
  t3 := Try.underlying3
  a3 := Try.isAgg3
  z3 := Try.sizeOf3
  v3 := Try.zeroValue3
  i3 := by kernel_rfl
  t4 := Try.underlying4
  a4 := Try.isAgg4
  z4 := Try.sizeOf4
  v4 := Try.zeroValue4
  i4 := by kernel_rfl
  t5 := Try.underlying5
  a5 := Try.isAgg5
  z5 := Try.sizeOf5
  v5 := Try.zeroValue5
  i5 := by kernel_rfl
  t21 := Try.underlying21
  a21 := Try.isAgg21
  z21 := Try.sizeOf21
  v21 := Try.zeroValue21
  i21 := by kernel_rfl
  t25 := Try.underlying51
  a25 := Try.isAgg51
  z25 := Try.sizeOf51
  v25 := Try.zeroValue51
  i25 := by kernel_rfl
  t27 := Try.underlying46
  a27 := Try.isAgg46
  z27 := Try.sizeOf46
  v27 := Try.zeroValue46
  i27 := by kernel_rfl
  t30 := Try.underlying26
  a30 := Try.isAgg26
  z30 := Try.sizeOf26
  v30 := Try.zeroValue26
  i30 := by kernel_rfl }
def Try.lays731_ren : Go.Shelf.Ren := ⟨fun | 31 => 23 | 48 => 29 | n => n, fun | 30 => 26 | 3 => 3 | 4 => 4 | 0 => 0 | 5 => 5 | 9 => 9 | n => n, fun | n => n⟩
theorem Try.lays731 : Go.Proofs.Lays7.n31 Try.prog Try.lays731_ren := {
  mixed := by kernel_rfl
  f31 := Try.func23.trans (congrArg some (by kernel_rfl))
  f48 := Try.func29.trans (congrArg some (by kernel_rfl))
  t0 := Try.underlying0
  a0 := Try.isAgg0
  z0 := Try.sizeOf0
  v0 := Try.zeroValue0
  i0 := by kernel_rfl
  t3 := Try.underlying3
  a3 := Try.isAgg3
  z3 := Try.sizeOf3
  v3 := Try.zeroValue3
  i3 := by kernel_rfl
  t4 := Try.underlying4
  a4 := Try.isAgg4
  z4 := Try.sizeOf4
  v4 := Try.zeroValue4
  i4 := by kernel_rfl
  t5 := Try.underlying5
  a5 := Try.isAgg5
  z5 := Try.sizeOf5
  v5 := Try.zeroValue5
  i5 := by kernel_rfl
  t9 := Try.underlying9
  a9 := Try.isAgg9
  z9 := Try.sizeOf9
  v9 := Try.zeroValue9
  i9 := by kernel_rfl
  t30 := Try.underlying26
  a30 := Try.isAgg26
  z30 := Try.sizeOf26
  v30 := Try.zeroValue26
  i30 := by kernel_rfl }
open Go.RowKit Go.Lib in
theorem Try.utf8_EncodeRune (b off len cap : Nat) (r : Int) (hlo : -2147483648 ≤ r) (hhi : r ≤ 2147483647) (w : World) (hl : (Lib.runeCells r).length ≤ len) (hc : ∀ j, j < (Lib.runeCells r).length → (w.cell? ⟨b, off + j, none⟩).isSome = true) (hf : ∀ j, j < (Lib.runeCells r).length → w.frozen? ⟨b, off + j, none⟩ = false) :
    Calls Try.prog 20 #[.slice (some ⟨b, off, none⟩) len cap, .int .i32 r] w fun e w' => e = .returned (.int .i64 (Lib.runeCells r).length) ∧ w' = w.setCells b off (Lib.runeCells r) := Any7.utf8_EncodeRune Try.lays730 b off len cap r hlo hhi w hl hc hf
open Go.RowKit Go.Lib in
theorem Try.utf8_RuneCount (s : ByteArray) (b off cap : Nat) (w : World) (hcap : s.size ≤ cap) (hp : ∀ j, j < s.size → w.cell? ⟨b, off + j, none⟩ = some (.int .u8 (s.get! j).toNat)) (hs : s.size < 9223372036854775807) :
    Calls Try.prog 23 #[.slice (some ⟨b, off, none⟩) s.size cap] w fun e w' => e = .returned (.int .i64 (Lib.runeCount s)) ∧ (w' = w ∨ ∃ t pos, w' = w.iter t pos) := Any7.utf8_RuneCount Try.lays731 s b off cap w hcap hp hs
open Go.RowKit Go.Lib in
theorem Try.utf8_RuneCount_nil (w : World) :
    Calls Try.prog 23 #[.slice none 0 0] w fun e w' => e = .returned (.int .i64 0) ∧ w' = w := Any7.utf8_RuneCount_nil Try.lays731 w
end Go.Proofs
