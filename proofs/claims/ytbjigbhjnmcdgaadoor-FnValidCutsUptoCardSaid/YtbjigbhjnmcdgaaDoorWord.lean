/- Contract of utf8.word of bytes, and what it tells. -/
import Derived.Test.YtbjigbhjnmcdgaaDoorDecLast
import Derived.Lib.ValidAsc
import Derived.Lib.EndianBits
import Derived.Laws.BitsAllLaws
import Derived.Deep.QuietTactic
set_option linter.unusedVariables false
namespace Go.Proofs.YtbjigbhjnmcdgaaDoor
open Go.RowKit P

/-- whether some bytes are valid -/
def vld (l : List Int) : Bool := Lib.validD (l.map u8of)
theorem vld_skip {l : List Int} (hb : Bytes l) (k : Nat) (h : ∀ x ∈ l.take k, x < 128) : vld (l.drop k) = vld l := by
  unfold vld
  rw [List.map_drop]
  refine (Lib.validD_ascii k _ fun b hb' => ?_).symm
  rw [← List.map_take] at hb'
  obtain ⟨x, hx, rfl⟩ := List.mem_map.1 hb'
  have h1 := hb x (List.mem_of_mem_take hx)
  have h2 := h x hx
  rw [u8of_toNat h1]; omega
/-- the number that the first eight bytes spell -/
def wordOf (l : List Int) : Nat := Lib.leNat ((l.take 8).map u8of)
theorem wordOf_lt (l : List Int) : wordOf l < 18446744073709551616 := by
  unfold wordOf
  have h := Lib.leNat_lt ((l.take 8).map u8of)
  have h2 : ((l.take 8).map u8of).length ≤ 8 := by simp; omega
  have h3 : 256 ^ ((l.take 8).map u8of).length ≤ 256 ^ 8 := Nat.pow_le_pow_right (by decide) h2
  have h4 : (256 : Nat) ^ 8 = 18446744073709551616 := by decide
  omega
theorem wordOf_asc {l : List Int} (hb : Bytes l) (h8 : 8 ≤ l.length) (h : wordOf l &&& 9259542123273814144 = 0) : ∀ x ∈ l.take 8, x < 128 := by
  have hm := (Lib.leNat_mask ((l.take 8).map u8of)).1 (by
    rw [show ((l.take 8).map u8of).length = 8 by simp; omega, Lib.maskN8]; exact h)
  intro x hx
  have h1 := hb x (List.mem_of_mem_take hx)
  have h2 := hm (u8of x) (List.mem_map_of_mem hx)
  rw [u8of_toNat h1] at h2; omega
theorem asc_app {l : List Int} {a b : Nat} (ha : ∀ x ∈ l.take a, x < 128) (hb : ∀ x ∈ (l.drop a).take b, x < 128) : ∀ x ∈ l.take (a + b), x < 128 := by
  rw [List.take_add]
  intro x hx
  rcases List.mem_append.1 hx with h | h
  · exact ha x h
  · exact hb x h

theorem len8' {l : List Int} (h : 8 ≤ l.length) : ∃ a0 a1 a2 a3 a4 a5 a6 a7 t, l = a0 :: a1 :: a2 :: a3 :: a4 :: a5 :: a6 :: a7 :: t := by
  match l, h with
  | a0 :: a1 :: a2 :: a3 :: a4 :: a5 :: a6 :: a7 :: t, _ => exact ⟨_, _, _, _, _, _, _, _, _, rfl⟩
  | [], h => simp at h
  | [_], h => simp at h
  | [_, _], h => simp at h
  | [_, _, _], h => simp at h
  | [_, _, _, _], h => simp at h
  | [_, _, _, _, _], h => simp at h
  | [_, _, _, _, _, _], h => simp at h
  | [_, _, _, _, _, _, _], h => simp at h

set_option maxHeartbeats 8000000 in
set_option maxRecDepth 100000 in
theorem word_cells {b off n c x0 x1 x2 x3 x4 x5 x6 x7 : Nat} {w : World} (h0 : x0 < 256) (h1 : x1 < 256) (h2 : x2 < 256) (h3 : x3 < 256) (h4 : x4 < 256) (h5 : x5 < 256) (h6 : x6 < 256) (h7 : x7 < 256) (hn : 8 ≤ n) (hb : b < w.heap.size)
    (c0 : w.cell? ⟨b, off, none⟩ = some (.int .u8 (x0 : Int))) (c1 : w.cell? ⟨b, off + 1, none⟩ = some (.int .u8 (x1 : Int))) (c2 : w.cell? ⟨b, off + 2, none⟩ = some (.int .u8 (x2 : Int))) (c3 : w.cell? ⟨b, off + 3, none⟩ = some (.int .u8 (x3 : Int)))
    (c4 : w.cell? ⟨b, off + 4, none⟩ = some (.int .u8 (x4 : Int))) (c5 : w.cell? ⟨b, off + 5, none⟩ = some (.int .u8 (x5 : Int))) (c6 : w.cell? ⟨b, off + 6, none⟩ = some (.int .u8 (x6 : Int))) (c7 : w.cell? ⟨b, off + 7, none⟩ = some (.int .u8 (x7 : Int))) :
    Calls Tryd.prog 35 #[.slice (some ⟨b, off, none⟩) n c] w fun e w' => e = .returned (.int .u64 ((x0 : Int) + (x1 : Int) * 256 + (x2 : Int) * 65536 + (x3 : Int) * 16777216 + (x4 : Int) * 4294967296 + (x5 : Int) * 1099511627776 + (x6 : Int) * 281474976710656 + (x7 : Int) * 72057594037927936)) ∧ ∃ q, w' = w.drewN q := by
  have q0 : (0 : Int) < (n : Int) := by omega
  have q1 : (1 : Int) < (n : Int) := by omega
  have q2 : (2 : Int) < (n : Int) := by omega
  have q3 : (3 : Int) < (n : Int) := by omega
  have q4 : (4 : Int) < (n : Int) := by omega
  have q5 : (5 : Int) < (n : Int) := by omega
  have q6 : (6 : Int) < (n : Int) := by omega
  have q7 : (7 : Int) < (n : Int) := by omega
  go_enter Tryd.func35, Tryd.ntmps35
  go_wp2
  go_quiet (fail)
  go_wp2
  go_ret
  refine ⟨ret_int ?_, _, rfl⟩
  simp (disch := omega) only [u64_or8, u64_or16, u64_or24, u64_or32, u64_or40, u64_or48, u64_or56]

set_option maxRecDepth 100000 in
theorem word_any {A : Option Addr} {l : List Int} {n c : Nat} {w : World} (hr : Rd w .u8 A l) (hb : Bytes l) (hn : l.length = n) (h8 : 8 ≤ l.length) :
    Calls Tryd.prog 35 #[.slice A n c] w fun e w' => e = .returned (.int .u64 (wordOf l)) ∧ ∃ q, w' = w.drewN q := by
  obtain ⟨b, off, rfl, hlt, hc⟩ := hr (by omega)
  obtain ⟨a0, a1, a2, a3, a4, a5, a6, a7, t, rfl⟩ := len8' h8
  have k0 := hb a0 (by simp); have k1 := hb a1 (by simp); have k2 := hb a2 (by simp); have k3 := hb a3 (by simp)
  have k4 := hb a4 (by simp); have k5 := hb a5 (by simp); have k6 := hb a6 (by simp); have k7 := hb a7 (by simp)
  have hv : ((wordOf (a0 :: a1 :: a2 :: a3 :: a4 :: a5 :: a6 :: a7 :: t) : Nat) : Int) = (a0.toNat : Int) + (a1.toNat : Int) * 256 + (a2.toNat : Int) * 65536 + (a3.toNat : Int) * 16777216 + (a4.toNat : Int) * 4294967296 + (a5.toNat : Int) * 1099511627776 + (a6.toNat : Int) * 281474976710656 + (a7.toNat : Int) * 72057594037927936 := by
    show ((Lib.leNat [u8of a0, u8of a1, u8of a2, u8of a3, u8of a4, u8of a5, u8of a6, u8of a7] : Nat) : Int) = _
    unfold Lib.leNat Lib.leNat Lib.leNat Lib.leNat Lib.leNat Lib.leNat Lib.leNat Lib.leNat Lib.leNat
    rw [u8of_toNat k0, u8of_toNat k1, u8of_toNat k2, u8of_toNat k3, u8of_toNat k4, u8of_toNat k5, u8of_toNat k6, u8of_toNat k7]
    omega
  rw [hv]
  have cc : ∀ (j : Nat) (x : Int), (a0 :: a1 :: a2 :: a3 :: a4 :: a5 :: a6 :: a7 :: t)[j]? = some x → 0 ≤ x → w.cell? ⟨b, off + j, none⟩ = some (.int .u8 (x.toNat : Int)) := fun j x hx h0 => by
    rw [hc j x hx, Int.toNat_of_nonneg h0]
  exact word_cells (by omega) (by omega) (by omega) (by omega) (by omega) (by omega) (by omega) (by omega) (by omega) hlt
    (cc 0 a0 rfl k0.1) (cc 1 a1 rfl k1.1) (cc 2 a2 rfl k2.1) (cc 3 a3 rfl k3.1) (cc 4 a4 rfl k4.1) (cc 5 a5 rfl k5.1) (cc 6 a6 rfl k6.1) (cc 7 a7 rfl k7.1)
end Go.Proofs.YtbjigbhjnmcdgaaDoor
