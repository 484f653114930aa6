/- Contracts of utf8.DecodeLastRune and impl.DecodeBytesBack. -/
import Derived.Test.YtbjigbhjnmcdgaaDoorDecBytes
set_option linter.unusedVariables false
namespace Go.Proofs.YtbjigbhjnmcdgaaDoor
open Go.RowKit P

def u8of (z : Int) : UInt8 := UInt8.ofNat z.toNat
theorem u8of_list (l : List Int) : (ofInts l).data.toList = l.map u8of := ofInts_list
theorem u8of_getD (l : List Int) (k : Nat) : (l.map u8of).getD k 0 = u8of (l.getD k 0) := by
  simp only [List.getD_eq_getElem?_getD, List.getElem?_map]
  cases l[k]? <;> rfl
theorem u8of_toNat {z : Int} (h : 0 ≤ z ∧ z < 256) : (u8of z).toNat = z.toNat := by
  unfold u8of; rw [UInt8.toNat_ofNat']; omega
theorem getD_bytes {l : List Int} (hb : Bytes l) (k : Nat) : 0 ≤ l.getD k 0 ∧ l.getD k 0 < 256 := by
  simp only [List.getD_eq_getElem?_getD]
  cases h : l[k]? with
  | none => simp
  | some x => exact hb x (List.mem_of_getElem? h)
theorem start_go {l : List Int} (hb : Bytes l) (k : Nat) : Lib.runeStartB ((l.map u8of).getD k 0) = !isC (l.getD k 0) := by
  rw [u8of_getD]
  have h := getD_bytes hb k
  generalize l.getD k 0 = z at *
  unfold Lib.runeStartB isC
  rw [u8of_toNat h]
  by_cases h2 : 128 ≤ z ∧ z < 192
  · have : z.toNat / 64 = 2 := by omega
    simp [this, h2]
  · have : z.toNat / 64 ≠ 2 := by omega
    simp [this, h2]
theorem lastStart_go {l : List Int} (hb : Bytes l) : Lib.lastStart (l.map u8of) = P.lastStart l := by
  unfold Lib.lastStart P.lastStart
  simp only [List.length_map, start_go hb, Bool.not_eq_true']
theorem decodeL_go {l : List Int} (hb : Bytes l) (hne : l ≠ []) : ((Lib.decodeL (l.map u8of)).1 : Int) = (dec1 l).1 ∧ (Lib.decodeL (l.map u8of)).2 = (dec1 l).2 := by
  have h := dec1_go hb
  unfold Lib.decodeGo at h
  have h0 : ¬ (ofInts l).size = 0 := by rw [ofInts_size]; intro e; exact hne (List.eq_nil_of_length_eq_zero e)
  rw [if_neg h0] at h
  exact h
theorem decLast_go {l : List Int} (hb : Bytes l) (hne : l ≠ []) : ((Lib.decodeLastL (ofInts l).data.toList).1 : Int) = (decLast l).1 ∧ (Lib.decodeLastL (ofInts l).data.toList).2 = (decLast l).2 := by
  rw [u8of_list]
  unfold Lib.decodeLastL decLast
  rw [if_neg hne, if_neg (by simpa using hne)]
  simp only [List.length_map]
  rw [u8of_getD, u8of_toNat (getD_bytes hb _), lastStart_go hb, ← List.map_drop]
  have h := getD_bytes hb (l.length - 1)
  have hd := decodeL_go (hb.drop (P.lastStart l)) (by have := lastStart_lt hne; intro e; have := congrArg List.length e; simp at this; omega)
  by_cases h1 : l.getD (l.length - 1) 0 < 128
  · rw [if_pos h1, if_pos (by omega)]; exact ⟨by simp only; omega, rfl⟩
  · rw [if_neg h1, if_neg (by omega), hd.2]
    split
    · exact hd
    · exact ⟨rfl, rfl⟩

theorem decodeLast_pos {A : Option Addr} {l : List Int} {c : Nat} {w : World} (hr : Rd w .u8 A l) (hb : Bytes l) (hT : Tabs w) (hne : 0 < l.length) (hc : l.length ≤ c) (hl : l.length ≤ 9223372036854775807) :
    Calls Tryd.prog 23 #[.slice A l.length c] w fun e w' => e = .returned (.tuple #[.int .i32 (decLast l).1, .int .i64 (decLast l).2]) ∧ Below w.heap.size w w' := by
  obtain ⟨b, off, rfl, hlt, hcell⟩ := hr hne
  have h := Tryd.utf8_DecodeLastRune (ofInts l) b off c w (by rw [ofInts_size]; exact hc) (cells_of hb hcell) (by rw [ofInts_size]; exact hl) hT
  rw [ofInts_size] at h
  obtain ⟨e1, e2⟩ := decLast_go hb (List.length_pos_iff.1 hne)
  rw [e1, e2] at h
  exact h
def runesB (l : List Int) : List Int := ((decs l).map (·.1)).reverse
def sizesB (l : List Int) : List Int := ((decs l).map fun d => (d.2 : Int)).reverse
theorem runesB_len (l : List Int) : (runesB l).length = (decs l).length := by simp [runesB]
theorem sizesB_len (l : List Int) : (sizesB l).length = (decs l).length := by simp [sizesB]
theorem runesB_step {l : List Int} (hb : Bytes l) (h : l ≠ []) : runesB l = (decLast l).1 :: runesB (l.take (l.length - (decLast l).2)) := by unfold runesB; rw [decs_last hb h]; simp
theorem sizesB_step {l : List Int} (hb : Bytes l) (h : l ≠ []) : sizesB l = ((decLast l).2 : Int) :: sizesB (l.take (l.length - (decLast l).2)) := by unfold sizesB; rw [decs_last hb h]; simp

end Go.Proofs.YtbjigbhjnmcdgaaDoor
