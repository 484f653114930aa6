/- Contracts of utf8.DecodeRune and DecodeLastRune in the words of the plain theory. -/
import Derived.Test.YtbjigbhjnmcdgaaDoorShelf
import Derived.Test.YtbjigbhjnmcdgaaDoorPlainMore
import Derived.Test.YtbjigbhjnmcdgaaDoorAppB
set_option linter.unusedVariables false
namespace Go.Proofs.YtbjigbhjnmcdgaaDoor
open Go.RowKit P

def ofInts (l : List Int) : ByteArray := ⟨(l.map fun z => UInt8.ofNat z.toNat).toArray⟩
theorem ofInts_size (l : List Int) : (ofInts l).size = l.length := by simp [ofInts, ByteArray.size]
theorem ofInts_get {l : List Int} (hb : Bytes l) (j : Nat) : ((ofInts l).get! j).toNat = (l.getD j 0).toNat := by
  have h1 : (ofInts l).get! j = (ofInts l).data.getD j 0 := by
    simp [ByteArray.get!, Array.getD_eq_getD_getElem?, getElem!_def]
    cases (ofInts l).data[j]? <;> rfl
  rw [h1]
  simp only [ofInts, Array.getD_eq_getD_getElem?, List.getElem?_toArray, List.getElem?_map, List.getD_eq_getElem?_getD]
  cases hj : l[j]? with
  | none => rfl
  | some x =>
    have := hb x (List.mem_of_getElem? hj)
    simp only [Option.map_some, Option.getD_some]
    rw [UInt8.toNat_ofNat_of_lt']
    show x.toNat < 256
    omega
theorem ofInts_list {l : List Int} : (ofInts l).data.toList = l.map fun z => UInt8.ofNat z.toNat := by simp [ofInts]
theorem dec1_go {l : List Int} (hb : Bytes l) : ((Lib.decodeGo (ofInts l)).1 : Int) = (dec1 l).1 ∧ (Lib.decodeGo (ofInts l)).2 = (dec1 l).2 := by
  unfold Lib.decodeGo dec1
  rw [ofInts_size]
  by_cases h : l = []
  · subst h; simp
  · have h0 : ¬ l.length = 0 := fun e => h (List.eq_nil_of_length_eq_zero e)
    rw [if_neg h0, if_neg h, Lib.decode_at, ofInts_size, ofInts_get hb, ofInts_get hb, ofInts_get hb, ofInts_get hb]
    simp

/-- the two tables of unicode/utf8 lie as their text lays them -/
def Tabs (w : World) : Prop := Lib.Utf8Tabs 0 1 w

theorem cells_of {w : World} {b off : Nat} {l : List Int} (hb : Bytes l) (hc : ∀ j x, l[j]? = some x → w.cell? ⟨b, off + j, none⟩ = some (.int .u8 x)) :
    ∀ j, j < (ofInts l).size → w.cell? ⟨b, off + j, none⟩ = some (.int .u8 ((ofInts l).get! j).toNat) := fun j hj => by
  rw [ofInts_size] at hj
  have h1 := hc j l[j] (List.getElem?_eq_getElem hj)
  rw [h1, ofInts_get hb]
  have h2 := hb l[j] (List.getElem_mem hj)
  simp only [List.getD_eq_getElem?_getD, List.getElem?_eq_getElem hj, Option.getD_some]
  congr 2
  omega

theorem decodeRune_pos {A : Option Addr} {l : List Int} {c : Nat} {w : World} (hr : Rd w .u8 A l) (hb : Bytes l) (hT : Tabs w) (hne : 0 < l.length) :
    Calls Tryd.prog 22 #[.slice A l.length c] w fun e w' => e = .returned (.tuple #[.int .i32 (dec1 l).1, .int .i64 (dec1 l).2]) ∧ Below w.heap.size w w' := by
  obtain ⟨b, off, rfl, hlt, hc⟩ := hr hne
  have h := Tryd.utf8_DecodeRune (ofInts l) b off c w hT (cells_of hb hc)
  rw [ofInts_size] at h
  obtain ⟨e1, e2⟩ := dec1_go hb
  rw [e1, e2] at h
  exact h
end Go.Proofs.YtbjigbhjnmcdgaaDoor
