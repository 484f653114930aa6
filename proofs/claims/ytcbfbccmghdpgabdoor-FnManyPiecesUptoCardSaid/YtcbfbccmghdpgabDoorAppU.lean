/- Contracts: utf16.AppendRune onto a slice of the call's own; impl.AppendUnits. -/
import Derived.Test.YtcbfbccmghdpgabDoorBytes
import Derived.Test.YtcbfbccmghdpgabDoorUnits2
import Derived.Test.YtcbfbccmghdpgabDoorPlainMore
set_option linter.unusedVariables false
namespace Go.Proofs.YtcbfbccmghdpgabDoor
open Go.RowKit P

theorem enc16_bad {r : Int} (h : r < 0 ∨ (55296 ≤ r ∧ r ≤ 57343) ∨ 1114111 < r) : enc16 r = [65533] := by
  have hg : good r = false := by rw [good_false]; omega
  unfold enc16; rw [fix_bad hg, if_pos (by omega)]
theorem enc16_small {r : Int} (h : (0 ≤ r ∧ r < 55296) ∨ (57343 < r ∧ r < 65536)) : enc16 r = [r] := by
  have hg : good r = true := by rw [good_iff]; omega
  unfold enc16; rw [fix_of_good hg, if_pos (by omega)]
theorem enc16_big {r : Int} (h : 65536 ≤ r) (h' : r ≤ 1114111) : enc16 r = [55296 + (r - 65536) / 1024, 56320 + (r - 65536) % 1024] := by
  have hg : good r = true := by rw [good_iff]; omega
  unfold enc16; rw [fix_of_good hg, if_neg (by omega)]

set_option maxHeartbeats 1000000 in
theorem appendRune16_any {base : Nat} {v : Value} {xs : List Int} {w : World} {r : Int} (h : -2147483648 ≤ r) (h' : r ≤ 2147483647) (hown : Own w base 23 .u16 v xs) (hl : xs.length + 2 ≤ 70368744177664) (hb : base ≤ w.heap.size) :
    Calls Tryd.prog 45 #[v, .int .i32 r] w (More w base 23 .u16 (xs ++ enc16 r)) := by
  rcases (by omega : r < 0 ∨ (0 ≤ r ∧ r < 55296) ∨ (55296 ≤ r ∧ r ≤ 57343) ∨ (57343 < r ∧ r < 65536) ∨ (65536 ≤ r ∧ r ≤ 1114111) ∨ 1114111 < r) with k | ⟨k, k'⟩ | ⟨k, k'⟩ | ⟨k, k'⟩ | ⟨k, k'⟩ | k
  · have HE := Lib.hid (enc16_bad (.inl k))
    go_enter Tryd.func45, Tryd.ntmps45
    go_wp2_with (at_builtin; refine wpList_app1 _ rfl _ _ 22 rfl base 23 .u16 2 Tryd.underlying22 info_u16 65533 hown rfl rfl (by omega) (by unfold maxLen; omega) hb ?_; intro A1 c1 acc1 w1 he1 hown1 hg1)
    go_ret
    exact ⟨A1, c1, acc1, by show acc1 = _; rw [he1.out, HE.out], rfl, hown1, hg1.below_new hown hb⟩
  · have HE := Lib.hid (enc16_small (.inl ⟨k, k'⟩))
    go_enter Tryd.func45, Tryd.ntmps45
    go_wp2_with (at_builtin; refine wpList_app1 _ rfl _ _ 22 rfl base 23 .u16 2 Tryd.underlying22 info_u16 r hown rfl rfl (by omega) (by unfold maxLen; omega) hb ?_; intro A1 c1 acc1 w1 he1 hown1 hg1)
    go_ret
    exact ⟨A1, c1, acc1, by show acc1 = _; rw [he1.out, HE.out], rfl, hown1, hg1.below_new hown hb⟩
  · have HE := Lib.hid (enc16_bad (.inr (.inl ⟨k, k'⟩)))
    go_enter Tryd.func45, Tryd.ntmps45
    go_wp2_with (at_builtin; refine wpList_app1 _ rfl _ _ 22 rfl base 23 .u16 2 Tryd.underlying22 info_u16 65533 hown rfl rfl (by omega) (by unfold maxLen; omega) hb ?_; intro A1 c1 acc1 w1 he1 hown1 hg1)
    go_ret
    exact ⟨A1, c1, acc1, by show acc1 = _; rw [he1.out, HE.out], rfl, hown1, hg1.below_new hown hb⟩
  · have HE := Lib.hid (enc16_small (.inr ⟨k, k'⟩))
    go_enter Tryd.func45, Tryd.ntmps45
    go_wp2_with (at_builtin; refine wpList_app1 _ rfl _ _ 22 rfl base 23 .u16 2 Tryd.underlying22 info_u16 r hown rfl rfl (by omega) (by unfold maxLen; omega) hb ?_; intro A1 c1 acc1 w1 he1 hown1 hg1)
    go_ret
    exact ⟨A1, c1, acc1, by show acc1 = _; rw [he1.out, HE.out], rfl, hown1, hg1.below_new hown hb⟩
  · have HE := Lib.hid (enc16_big k k')
    go_enter Tryd.func45, Tryd.ntmps45
    go_wp2_with (first
      | (go_at_call 52; refine (encodeRune16_any r k k' _).mono ?_; rintro e w' ⟨rfl, rfl⟩)
      | (at_builtin; refine wpList_appN _ rfl _ _ 22 rfl base 23 .u16 2 Tryd.underlying22 info_u16 [55296 + (r - 65536) / 1024, 56320 + (r - 65536) % 1024] rfl 2 rfl hown rfl rfl (by omega) (by unfold maxLen; omega) hb ?_; intro A1 c1 acc1 w1 he1 hown1 hg1))
    go_ret
    exact ⟨A1, c1, acc1, by show acc1 = _; rw [he1.out, HE.out], rfl, hown1, hg1.below_new hown hb⟩
  · have HE := Lib.hid (enc16_bad (.inr (.inr k)))
    go_enter Tryd.func45, Tryd.ntmps45
    go_wp2_with (at_builtin; refine wpList_app1 _ rfl _ _ 22 rfl base 23 .u16 2 Tryd.underlying22 info_u16 65533 hown rfl rfl (by omega) (by unfold maxLen; omega) hb ?_; intro A1 c1 acc1 w1 he1 hown1 hg1)
    go_ret
    exact ⟨A1, c1, acc1, by show acc1 = _; rw [he1.out, HE.out], rfl, hown1, hg1.below_new hown hb⟩
set_option maxHeartbeats 1000000 in
theorem appendUnits_any {A A' : Option Addr} {us rs : List Int} {c c' : Nat} {w : World} (hb : Rd w .u16 A us) (hr : Rd w .i32 A' rs) (hi : I32 rs) (hl : us.length + 2 * rs.length ≤ 70368744177600) :
    Calls Tryd.prog 34 #[.slice A us.length c, .slice A' rs.length c'] w (Made w 23 .u16 (us ++ encs16 rs)) := by
  go_enter Tryd.func34, Tryd.ntmps34
  go_wp2_with (at_builtin; refine wpList_appRd _ rfl _ _ 22 rfl w.heap.size 23 .u16 2 Tryd.underlying22 info_u16 c hb _ rfl (Own.nil _ _ _ _) rfl rfl (by simp; omega) (by unfold maxLen; simp; omega) (Nat.le_refl _) ?_; intro A1 c1 acc1 w1 he1 hown1 hg1)
  have hb1 : Below w.heap.size w w1 := hg1.below_ (Own.nil w w.heap.size 23 .u16) (Nat.le_refl _)
  have hacc1 : Hid (acc1 = us ++ encs16 (rs.take 0)) := by show acc1 = _; rw [he1.out]; simp [encs16_nil]
  clear hg1 he1
  go_loopw [5, 12] (fun v i wr => ∃ (k : Nat) (A : Option Addr) (c : Nat) (acc : List Int), k ≤ rs.length ∧ i = .int .i64 k ∧ Hid (acc = us ++ encs16 (rs.take k)) ∧ v = .slice A acc.length c ∧ Own wr w.heap.size 23 .u16 (.slice A acc.length c) acc ∧ Below w.heap.size w wr)
    (fun _ i _ => rs.length - (intOf i).toNat)
  case atStart => exact ⟨0, A1, c1, acc1, Nat.zero_le _, rfl, hacc1, rfl, hown1, hb1⟩
  case round =>
    clear hown1 hb1 hacc1
    obtain ⟨k, A2, c2, acc, hk, rfl, hacc, rfl, hown, hbel⟩ := hrel
    have hle : acc.length ≤ us.length + 2 * k := by
      rw [hacc.out, List.length_append]
      have h1 := (encs16_len (rs.take k)).2
      have h2 := List.length_take_le k rs
      omega
    have hsz := hbel.size
    by_cases hlt : k < rs.length
    · obtain ⟨b, off, x, rfl, hb, hxk, hcx⟩ := (hr.next hbel).at_ hlt
      have hx32 := hi x (mem_at hxk)
      have HX := Lib.hid hxk
      clear hxk
      have h1 : (k : Int) < (rs.length : Int) := by omega
      go_wp2_with (go_at_call 45; refine (appendRune16_any hx32.1 hx32.2 hown (by omega) hsz).mono ?_; rintro e w2 ⟨A3, c3, ys, hys, rfl, hown2, hb2⟩)
      go_roundw
      case rel =>
        refine ⟨k + 1, A3, c3, ys, by omega, by go_num, ?_, rfl, hown2, hbel.trans hb2⟩
        show ys = _
        rw [hys.out, hacc.out, take_succ HX.out, encs16_append, List.append_assoc, encs16_cons, encs16_nil, List.append_nil]
      case measure => simp [intOf]; omega
    · have h1 : ¬ (k : Int) < (rs.length : Int) := by omega
      go_wp2
      go_ret
      refine ⟨A2, c2, acc, ?_, rfl, hown, hbel⟩
      show acc = _
      rw [hacc.out, List.take_of_length_le (by omega)]
end Go.Proofs.YtcbfbccmghdpgabDoor
