/- Contract of the reference's number. -/
import Derived.Test.YtcbfbccmghdpgaaDoorSpec
import Derived.Test.YtcbfbccmghdpgaaDoorQuiet
import Derived.Deep.QuietTactic
set_option linter.unusedVariables false
namespace Go.Proofs.YtcbfbccmghdpgaaDoor
open Go.RowKit P

def maskM (n : Nat) : Int := if n = 1 then 127 else if n = 2 then 31 else if n = 3 then 15 else 7
def numF : List Int → Int
  | [] => 0
  | x :: t => t.foldl (fun r c => r * 64 + c % 64) (x % (maskM (t.length + 1) + 1))
theorem num_enc {r : Int} (hg : good r = true) : numF (enc r) = r := by
  rcases enc_forms hg with ⟨a, b, e⟩ | ⟨a, b, e⟩ | ⟨a, b, c, e⟩ | ⟨a, b, e⟩ <;> rw [e] <;> simp only [numF, List.foldl_cons, List.foldl_nil, List.length_cons, List.length_nil, maskM] <;> simp <;> omega
theorem and_mask : ∀ (m : Nat), (m = 127 ∨ m = 31 ∨ m = 15 ∨ m = 7) → ∀ x : Int, 0 ≤ x → x < 256 → bits .and .i32 x (m : Int) = x % ((m : Int) + 1) := by
  intro m hm x h0 h1
  rcases hm with rfl | rfl | rfl | rfl
  · show IntKind.i32.wrap ((BitVec.ofInt 32 x &&& BitVec.ofInt 32 127).toNat : Int) = _
    rw [BitVec.toNat_and, toNat_ofInt, toNat_ofInt, show ((127 : Int) % (2 ^ 32 : Nat)).toNat = 2 ^ 7 - 1 by decide, Nat.and_two_pow_sub_one_eq_mod, IntKind.wrap_i32]; omega
  · show IntKind.i32.wrap ((BitVec.ofInt 32 x &&& BitVec.ofInt 32 31).toNat : Int) = _
    rw [BitVec.toNat_and, toNat_ofInt, toNat_ofInt, show ((31 : Int) % (2 ^ 32 : Nat)).toNat = 2 ^ 5 - 1 by decide, Nat.and_two_pow_sub_one_eq_mod, IntKind.wrap_i32]; omega
  · show IntKind.i32.wrap ((BitVec.ofInt 32 x &&& BitVec.ofInt 32 15).toNat : Int) = _
    rw [BitVec.toNat_and, toNat_ofInt, toNat_ofInt, show ((15 : Int) % (2 ^ 32 : Nat)).toNat = 2 ^ 4 - 1 by decide, Nat.and_two_pow_sub_one_eq_mod, IntKind.wrap_i32]; omega
  · show IntKind.i32.wrap ((BitVec.ofInt 32 x &&& BitVec.ofInt 32 7).toNat : Int) = _
    rw [BitVec.toNat_and, toNat_ofInt, toNat_ofInt, show ((7 : Int) % (2 ^ 32 : Nat)).toNat = 2 ^ 3 - 1 by decide, Nat.and_two_pow_sub_one_eq_mod, IntKind.wrap_i32]; omega

theorem fold_take {t : List Int} {k : Nat} {y a : Int} (h : t[k]? = some y) : (t.take (k + 1)).foldl (fun r c => r * 64 + c % 64) a = (t.take k).foldl (fun r c => r * 64 + c % 64) a * 64 + y % 64 := by
  rw [List.take_add_one, h, List.foldl_append]; rfl
set_option maxHeartbeats 2000000 in
theorem numberS_1 {b off c : Nat} {x : Int} {t : List Int} {w : World} (hr : Rd w .u8 (some ⟨b, off, none⟩) (x :: t)) (hb : Bytes (x :: t)) (hn : t.length = 0) (hc : 1 ≤ c) :
    Calls Tryd.prog 75 #[.slice (some ⟨b, off, none⟩) 1 c] w fun e w' => e = .returned (.int .i32 (numF (x :: t))) ∧ Hid (-2147483648 ≤ numF (x :: t) ∧ numF (x :: t) ≤ 2147483647) ∧ Below w.heap.size w w' := by
  obtain ⟨j8, hj8, _, hs8, _⟩ := info_parts info_u8
  obtain ⟨b0, off0, x0, hA0, hlt, hx, h0⟩ := hr.at_ (i := 0) (by simp)
  injection hA0 with hA0; injection hA0 with q1 q2; subst q1 q2
  simp at hx; subst hx
  have h0' : w.cell? ⟨b, off, none⟩ = some (.int .u8 x) := by simpa using h0
  have hbx := hb x (by simp)
  have hx0 := hbx.1
  have hx1 := hbx.2
  have e1 : bits .and .i32 x 127 = x % 128 := and_mask 127 (by omega) x hx0 hx1
  have e2 : 0 ≤ x % 128 := by omega
  have e3 : x % 128 < 128 := by omega
  have e4 : numF (x :: t) = t.foldl (fun r c => r * 64 + c % 64) (x % 128) := by simp [numF, hn, maskM]
  have E4 := Lib.hid e4
  have HN := Lib.hid hn
  have hcut : ∀ W, (Instr.slice 29 (.slice (some ⟨b, off, none⟩) 1 c) (some (.int .i64 1)) none none).run Tryd.prog W = .ok (.slice (cutA (some ⟨b, off, none⟩) c 1) 0 (c - 1)) W := fun W => run_cut_l (P := Tryd.prog) (w := W) 29 5 Tryd.underlying29 j8 hj8 hs8 (some ⟨b, off, none⟩) 1 c 1 1 rfl (by omega)
  have rt : Rd w .u8 (cutA (some ⟨b, off, none⟩) c 1) t := by
    have := hr.drop c 1 (by simp; omega)
    simpa using this
  generalize cutA (some ⟨b, off, none⟩) c 1 = At at *
  have ht : Bytes t := fun y hy => hb y (by simp [hy])
  clear h0 hj8 hs8 e4 hn hr hb
  generalize x % 128 = q at *
  go_enter Tryd.func75, Tryd.ntmps75
  go_wp2
  go_quiet (fail)
  go_wp2
  go_loopw [4, 21] (fun v4 v21 wr => ∃ (k : Nat) (r : Int), k ≤ 0 ∧ v4 = .int .i32 r ∧ v21 = .int .i64 k ∧ 0 ≤ r ∧ Hid ((k = 0 ∧ r < 128) ∨ (k = 1 ∧ r < 8192) ∨ (k = 2 ∧ r < 524288) ∨ (k = 3 ∧ r < 33554432)) ∧ Hid (r = (t.take k).foldl (fun r c => r * 64 + c % 64) q) ∧ Below w.heap.size w wr) (fun _ v21 _ => 0 - (intOf v21).toNat)
  case atStart => exact ⟨0, q, Nat.zero_le _, rfl, rfl, e2, .inl ⟨rfl, e3⟩, rfl, bdrewN ((Below.refl _ _).alloc (Nat.le_refl _) _) _⟩
  case round =>
    obtain ⟨k, r, hk, rfl, rfl, hr0, hrb, hrf, hbel⟩ := hrel
    by_cases hlt2 : k < 0
    · obtain ⟨b1, off1, y, hA1, hb1, hy, hc1⟩ := (rt.next hbel).at_ (i := k) (by rw [HN.out]; exact hlt2)
      have hy8 := ht y (List.mem_of_getElem? hy)
      have hy0 := hy8.1
      have hy1 := hy8.2
      have f1 := and63_i32 y hy0 (by omega)
      have hr1 : r < 524288 := by have := hrb.out; omega
      have HB2 : Hid ((k + 1 = 0 ∧ r * 64 + y % 64 < 128) ∨ (k + 1 = 1 ∧ r * 64 + y % 64 < 8192) ∨ (k + 1 = 2 ∧ r * 64 + y % 64 < 524288) ∨ (k + 1 = 3 ∧ r * 64 + y % 64 < 33554432)) := by have := hrb.out; show _ ∨ _; omega
      have HF2 : Hid (r * 64 + y % 64 = (t.take (k + 1)).foldl (fun r c => r * 64 + c % 64) q) := by show _ = _; rw [fold_take hy, ← hrf.out]
      have hz : 0 ≤ r * 64 + y % 64 := by omega
      have h1 : (k : Int) < 0 := by omega
      have h2 : (0 : Int) ≤ (k : Int) := by omega
      have hm0 : 0 ≤ y % 64 := by omega
      have hm1 : y % 64 < 64 := by omega
      subst hA1
      clear hy hrb hrf hy8
      generalize y % 64 = z at *
      go_wp2
      go_roundw
      case rel => exact ⟨k + 1, r * 64 + z, by omega, by go_num, by go_num, hz, HB2, HF2, hbel⟩
      case measure => simp [intOf]; omega
    · have h1 : ¬ (k : Int) < 0 := by omega
      have hr1 : r < 33554432 := by have := hrb.out; omega
      have HV : Hid (r = numF (x :: t)) := by show _ = _; rw [hrf.out, E4.out, List.take_of_length_le (by rw [HN.out]; omega)]
      clear hrb hrf
      go_wp2
      go_ret
      refine ⟨ret_int HV.out, ?_, hbel⟩
      show _ ∧ _
      rw [← HV.out]; omega
set_option maxHeartbeats 2000000 in
theorem numberS_2 {b off c : Nat} {x : Int} {t : List Int} {w : World} (hr : Rd w .u8 (some ⟨b, off, none⟩) (x :: t)) (hb : Bytes (x :: t)) (hn : t.length = 1) (hc : 2 ≤ c) :
    Calls Tryd.prog 75 #[.slice (some ⟨b, off, none⟩) 2 c] w fun e w' => e = .returned (.int .i32 (numF (x :: t))) ∧ Hid (-2147483648 ≤ numF (x :: t) ∧ numF (x :: t) ≤ 2147483647) ∧ Below w.heap.size w w' := by
  obtain ⟨j8, hj8, _, hs8, _⟩ := info_parts info_u8
  obtain ⟨b0, off0, x0, hA0, hlt, hx, h0⟩ := hr.at_ (i := 0) (by simp)
  injection hA0 with hA0; injection hA0 with q1 q2; subst q1 q2
  simp at hx; subst hx
  have h0' : w.cell? ⟨b, off, none⟩ = some (.int .u8 x) := by simpa using h0
  have hbx := hb x (by simp)
  have hx0 := hbx.1
  have hx1 := hbx.2
  have e1 : bits .and .i32 x 31 = x % 32 := and_mask 31 (by omega) x hx0 hx1
  have e2 : 0 ≤ x % 32 := by omega
  have e3 : x % 32 < 128 := by omega
  have e4 : numF (x :: t) = t.foldl (fun r c => r * 64 + c % 64) (x % 32) := by simp [numF, hn, maskM]
  have E4 := Lib.hid e4
  have HN := Lib.hid hn
  have hcut : ∀ W, (Instr.slice 29 (.slice (some ⟨b, off, none⟩) 2 c) (some (.int .i64 1)) none none).run Tryd.prog W = .ok (.slice (cutA (some ⟨b, off, none⟩) c 1) 1 (c - 1)) W := fun W => run_cut_l (P := Tryd.prog) (w := W) 29 5 Tryd.underlying29 j8 hj8 hs8 (some ⟨b, off, none⟩) 2 c 1 1 rfl (by omega)
  have rt : Rd w .u8 (cutA (some ⟨b, off, none⟩) c 1) t := by
    have := hr.drop c 1 (by simp; omega)
    simpa using this
  generalize cutA (some ⟨b, off, none⟩) c 1 = At at *
  have ht : Bytes t := fun y hy => hb y (by simp [hy])
  clear h0 hj8 hs8 e4 hn hr hb
  generalize x % 32 = q at *
  go_enter Tryd.func75, Tryd.ntmps75
  go_wp2
  go_quiet (fail)
  go_wp2
  go_loopw [4, 21] (fun v4 v21 wr => ∃ (k : Nat) (r : Int), k ≤ 1 ∧ v4 = .int .i32 r ∧ v21 = .int .i64 k ∧ 0 ≤ r ∧ Hid ((k = 0 ∧ r < 128) ∨ (k = 1 ∧ r < 8192) ∨ (k = 2 ∧ r < 524288) ∨ (k = 3 ∧ r < 33554432)) ∧ Hid (r = (t.take k).foldl (fun r c => r * 64 + c % 64) q) ∧ Below w.heap.size w wr) (fun _ v21 _ => 1 - (intOf v21).toNat)
  case atStart => exact ⟨0, q, Nat.zero_le _, rfl, rfl, e2, .inl ⟨rfl, e3⟩, rfl, bdrewN ((Below.refl _ _).alloc (Nat.le_refl _) _) _⟩
  case round =>
    obtain ⟨k, r, hk, rfl, rfl, hr0, hrb, hrf, hbel⟩ := hrel
    by_cases hlt2 : k < 1
    · obtain ⟨b1, off1, y, hA1, hb1, hy, hc1⟩ := (rt.next hbel).at_ (i := k) (by rw [HN.out]; exact hlt2)
      have hy8 := ht y (List.mem_of_getElem? hy)
      have hy0 := hy8.1
      have hy1 := hy8.2
      have f1 := and63_i32 y hy0 (by omega)
      have hr1 : r < 524288 := by have := hrb.out; omega
      have HB2 : Hid ((k + 1 = 0 ∧ r * 64 + y % 64 < 128) ∨ (k + 1 = 1 ∧ r * 64 + y % 64 < 8192) ∨ (k + 1 = 2 ∧ r * 64 + y % 64 < 524288) ∨ (k + 1 = 3 ∧ r * 64 + y % 64 < 33554432)) := by have := hrb.out; show _ ∨ _; omega
      have HF2 : Hid (r * 64 + y % 64 = (t.take (k + 1)).foldl (fun r c => r * 64 + c % 64) q) := by show _ = _; rw [fold_take hy, ← hrf.out]
      have hz : 0 ≤ r * 64 + y % 64 := by omega
      have h1 : (k : Int) < 1 := by omega
      have h2 : (0 : Int) ≤ (k : Int) := by omega
      have hm0 : 0 ≤ y % 64 := by omega
      have hm1 : y % 64 < 64 := by omega
      subst hA1
      clear hy hrb hrf hy8
      generalize y % 64 = z at *
      go_wp2
      go_roundw
      case rel => exact ⟨k + 1, r * 64 + z, by omega, by go_num, by go_num, hz, HB2, HF2, hbel⟩
      case measure => simp [intOf]; omega
    · have h1 : ¬ (k : Int) < 1 := by omega
      have hr1 : r < 33554432 := by have := hrb.out; omega
      have HV : Hid (r = numF (x :: t)) := by show _ = _; rw [hrf.out, E4.out, List.take_of_length_le (by rw [HN.out]; omega)]
      clear hrb hrf
      go_wp2
      go_ret
      refine ⟨ret_int HV.out, ?_, hbel⟩
      show _ ∧ _
      rw [← HV.out]; omega
set_option maxHeartbeats 2000000 in
theorem numberS_3 {b off c : Nat} {x : Int} {t : List Int} {w : World} (hr : Rd w .u8 (some ⟨b, off, none⟩) (x :: t)) (hb : Bytes (x :: t)) (hn : t.length = 2) (hc : 3 ≤ c) :
    Calls Tryd.prog 75 #[.slice (some ⟨b, off, none⟩) 3 c] w fun e w' => e = .returned (.int .i32 (numF (x :: t))) ∧ Hid (-2147483648 ≤ numF (x :: t) ∧ numF (x :: t) ≤ 2147483647) ∧ Below w.heap.size w w' := by
  obtain ⟨j8, hj8, _, hs8, _⟩ := info_parts info_u8
  obtain ⟨b0, off0, x0, hA0, hlt, hx, h0⟩ := hr.at_ (i := 0) (by simp)
  injection hA0 with hA0; injection hA0 with q1 q2; subst q1 q2
  simp at hx; subst hx
  have h0' : w.cell? ⟨b, off, none⟩ = some (.int .u8 x) := by simpa using h0
  have hbx := hb x (by simp)
  have hx0 := hbx.1
  have hx1 := hbx.2
  have e1 : bits .and .i32 x 15 = x % 16 := and_mask 15 (by omega) x hx0 hx1
  have e2 : 0 ≤ x % 16 := by omega
  have e3 : x % 16 < 128 := by omega
  have e4 : numF (x :: t) = t.foldl (fun r c => r * 64 + c % 64) (x % 16) := by simp [numF, hn, maskM]
  have E4 := Lib.hid e4
  have HN := Lib.hid hn
  have hcut : ∀ W, (Instr.slice 29 (.slice (some ⟨b, off, none⟩) 3 c) (some (.int .i64 1)) none none).run Tryd.prog W = .ok (.slice (cutA (some ⟨b, off, none⟩) c 1) 2 (c - 1)) W := fun W => run_cut_l (P := Tryd.prog) (w := W) 29 5 Tryd.underlying29 j8 hj8 hs8 (some ⟨b, off, none⟩) 3 c 1 1 rfl (by omega)
  have rt : Rd w .u8 (cutA (some ⟨b, off, none⟩) c 1) t := by
    have := hr.drop c 1 (by simp; omega)
    simpa using this
  generalize cutA (some ⟨b, off, none⟩) c 1 = At at *
  have ht : Bytes t := fun y hy => hb y (by simp [hy])
  clear h0 hj8 hs8 e4 hn hr hb
  generalize x % 16 = q at *
  go_enter Tryd.func75, Tryd.ntmps75
  go_wp2
  go_quiet (fail)
  go_wp2
  go_loopw [4, 21] (fun v4 v21 wr => ∃ (k : Nat) (r : Int), k ≤ 2 ∧ v4 = .int .i32 r ∧ v21 = .int .i64 k ∧ 0 ≤ r ∧ Hid ((k = 0 ∧ r < 128) ∨ (k = 1 ∧ r < 8192) ∨ (k = 2 ∧ r < 524288) ∨ (k = 3 ∧ r < 33554432)) ∧ Hid (r = (t.take k).foldl (fun r c => r * 64 + c % 64) q) ∧ Below w.heap.size w wr) (fun _ v21 _ => 2 - (intOf v21).toNat)
  case atStart => exact ⟨0, q, Nat.zero_le _, rfl, rfl, e2, .inl ⟨rfl, e3⟩, rfl, bdrewN ((Below.refl _ _).alloc (Nat.le_refl _) _) _⟩
  case round =>
    obtain ⟨k, r, hk, rfl, rfl, hr0, hrb, hrf, hbel⟩ := hrel
    by_cases hlt2 : k < 2
    · obtain ⟨b1, off1, y, hA1, hb1, hy, hc1⟩ := (rt.next hbel).at_ (i := k) (by rw [HN.out]; exact hlt2)
      have hy8 := ht y (List.mem_of_getElem? hy)
      have hy0 := hy8.1
      have hy1 := hy8.2
      have f1 := and63_i32 y hy0 (by omega)
      have hr1 : r < 524288 := by have := hrb.out; omega
      have HB2 : Hid ((k + 1 = 0 ∧ r * 64 + y % 64 < 128) ∨ (k + 1 = 1 ∧ r * 64 + y % 64 < 8192) ∨ (k + 1 = 2 ∧ r * 64 + y % 64 < 524288) ∨ (k + 1 = 3 ∧ r * 64 + y % 64 < 33554432)) := by have := hrb.out; show _ ∨ _; omega
      have HF2 : Hid (r * 64 + y % 64 = (t.take (k + 1)).foldl (fun r c => r * 64 + c % 64) q) := by show _ = _; rw [fold_take hy, ← hrf.out]
      have hz : 0 ≤ r * 64 + y % 64 := by omega
      have h1 : (k : Int) < 2 := by omega
      have h2 : (0 : Int) ≤ (k : Int) := by omega
      have hm0 : 0 ≤ y % 64 := by omega
      have hm1 : y % 64 < 64 := by omega
      subst hA1
      clear hy hrb hrf hy8
      generalize y % 64 = z at *
      go_wp2
      go_roundw
      case rel => exact ⟨k + 1, r * 64 + z, by omega, by go_num, by go_num, hz, HB2, HF2, hbel⟩
      case measure => simp [intOf]; omega
    · have h1 : ¬ (k : Int) < 2 := by omega
      have hr1 : r < 33554432 := by have := hrb.out; omega
      have HV : Hid (r = numF (x :: t)) := by show _ = _; rw [hrf.out, E4.out, List.take_of_length_le (by rw [HN.out]; omega)]
      clear hrb hrf
      go_wp2
      go_ret
      refine ⟨ret_int HV.out, ?_, hbel⟩
      show _ ∧ _
      rw [← HV.out]; omega
set_option maxHeartbeats 2000000 in
theorem numberS_4 {b off c : Nat} {x : Int} {t : List Int} {w : World} (hr : Rd w .u8 (some ⟨b, off, none⟩) (x :: t)) (hb : Bytes (x :: t)) (hn : t.length = 3) (hc : 4 ≤ c) :
    Calls Tryd.prog 75 #[.slice (some ⟨b, off, none⟩) 4 c] w fun e w' => e = .returned (.int .i32 (numF (x :: t))) ∧ Hid (-2147483648 ≤ numF (x :: t) ∧ numF (x :: t) ≤ 2147483647) ∧ Below w.heap.size w w' := by
  obtain ⟨j8, hj8, _, hs8, _⟩ := info_parts info_u8
  obtain ⟨b0, off0, x0, hA0, hlt, hx, h0⟩ := hr.at_ (i := 0) (by simp)
  injection hA0 with hA0; injection hA0 with q1 q2; subst q1 q2
  simp at hx; subst hx
  have h0' : w.cell? ⟨b, off, none⟩ = some (.int .u8 x) := by simpa using h0
  have hbx := hb x (by simp)
  have hx0 := hbx.1
  have hx1 := hbx.2
  have e1 : bits .and .i32 x 7 = x % 8 := and_mask 7 (by omega) x hx0 hx1
  have e2 : 0 ≤ x % 8 := by omega
  have e3 : x % 8 < 128 := by omega
  have e4 : numF (x :: t) = t.foldl (fun r c => r * 64 + c % 64) (x % 8) := by simp [numF, hn, maskM]
  have E4 := Lib.hid e4
  have HN := Lib.hid hn
  have hcut : ∀ W, (Instr.slice 29 (.slice (some ⟨b, off, none⟩) 4 c) (some (.int .i64 1)) none none).run Tryd.prog W = .ok (.slice (cutA (some ⟨b, off, none⟩) c 1) 3 (c - 1)) W := fun W => run_cut_l (P := Tryd.prog) (w := W) 29 5 Tryd.underlying29 j8 hj8 hs8 (some ⟨b, off, none⟩) 4 c 1 1 rfl (by omega)
  have rt : Rd w .u8 (cutA (some ⟨b, off, none⟩) c 1) t := by
    have := hr.drop c 1 (by simp; omega)
    simpa using this
  generalize cutA (some ⟨b, off, none⟩) c 1 = At at *
  have ht : Bytes t := fun y hy => hb y (by simp [hy])
  clear h0 hj8 hs8 e4 hn hr hb
  generalize x % 8 = q at *
  go_enter Tryd.func75, Tryd.ntmps75
  go_wp2
  go_quiet (fail)
  go_wp2
  go_loopw [4, 21] (fun v4 v21 wr => ∃ (k : Nat) (r : Int), k ≤ 3 ∧ v4 = .int .i32 r ∧ v21 = .int .i64 k ∧ 0 ≤ r ∧ Hid ((k = 0 ∧ r < 128) ∨ (k = 1 ∧ r < 8192) ∨ (k = 2 ∧ r < 524288) ∨ (k = 3 ∧ r < 33554432)) ∧ Hid (r = (t.take k).foldl (fun r c => r * 64 + c % 64) q) ∧ Below w.heap.size w wr) (fun _ v21 _ => 3 - (intOf v21).toNat)
  case atStart => exact ⟨0, q, Nat.zero_le _, rfl, rfl, e2, .inl ⟨rfl, e3⟩, rfl, bdrewN ((Below.refl _ _).alloc (Nat.le_refl _) _) _⟩
  case round =>
    obtain ⟨k, r, hk, rfl, rfl, hr0, hrb, hrf, hbel⟩ := hrel
    by_cases hlt2 : k < 3
    · obtain ⟨b1, off1, y, hA1, hb1, hy, hc1⟩ := (rt.next hbel).at_ (i := k) (by rw [HN.out]; exact hlt2)
      have hy8 := ht y (List.mem_of_getElem? hy)
      have hy0 := hy8.1
      have hy1 := hy8.2
      have f1 := and63_i32 y hy0 (by omega)
      have hr1 : r < 524288 := by have := hrb.out; omega
      have HB2 : Hid ((k + 1 = 0 ∧ r * 64 + y % 64 < 128) ∨ (k + 1 = 1 ∧ r * 64 + y % 64 < 8192) ∨ (k + 1 = 2 ∧ r * 64 + y % 64 < 524288) ∨ (k + 1 = 3 ∧ r * 64 + y % 64 < 33554432)) := by have := hrb.out; show _ ∨ _; omega
      have HF2 : Hid (r * 64 + y % 64 = (t.take (k + 1)).foldl (fun r c => r * 64 + c % 64) q) := by show _ = _; rw [fold_take hy, ← hrf.out]
      have hz : 0 ≤ r * 64 + y % 64 := by omega
      have h1 : (k : Int) < 3 := by omega
      have h2 : (0 : Int) ≤ (k : Int) := by omega
      have hm0 : 0 ≤ y % 64 := by omega
      have hm1 : y % 64 < 64 := by omega
      subst hA1
      clear hy hrb hrf hy8
      generalize y % 64 = z at *
      go_wp2
      go_roundw
      case rel => exact ⟨k + 1, r * 64 + z, by omega, by go_num, by go_num, hz, HB2, HF2, hbel⟩
      case measure => simp [intOf]; omega
    · have h1 : ¬ (k : Int) < 3 := by omega
      have hr1 : r < 33554432 := by have := hrb.out; omega
      have HV : Hid (r = numF (x :: t)) := by show _ = _; rw [hrf.out, E4.out, List.take_of_length_le (by rw [HN.out]; omega)]
      clear hrb hrf
      go_wp2
      go_ret
      refine ⟨ret_int HV.out, ?_, hbel⟩
      show _ ∧ _
      rw [← HV.out]; omega
theorem numberS_any {A : Option Addr} {l : List Int} {n c : Nat} {w : World} (hr : Rd w .u8 A l) (hb : Bytes l) (hn : l.length = n) (h1 : 1 ≤ n) (h4 : n ≤ 4) (hc : n ≤ c) :
    Calls Tryd.prog 75 #[.slice A n c] w fun e w' => e = .returned (.int .i32 (numF l)) ∧ Hid (-2147483648 ≤ numF l ∧ numF l ≤ 2147483647) ∧ Below w.heap.size w w' := by
  obtain ⟨b, off, rfl, _, _⟩ := hr (by omega)
  match l, hn, hr, hb with
  | [], hn, hr, hb => simp at hn; omega
  | x :: t, hn, hr, hb =>
    simp only [List.length_cons] at hn
    rcases (by omega : n = 1 ∨ n = 2 ∨ n = 3 ∨ n = 4) with q | q | q | q <;> subst q
    · exact numberS_1 hr hb (by omega) hc
    · exact numberS_2 hr hb (by omega) hc
    · exact numberS_3 hr hb (by omega) hc
    · exact numberS_4 hr hb (by omega) hc
end Go.Proofs.YtcbfbccmghdpgaaDoor
