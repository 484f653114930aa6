/- Contracts: utf8.AppendRune onto a slice of the call's own; impl.AppendBytes; copied. -/
import Derived.Test.YtlbdhfpakajdaaaApp
import Derived.Test.YtlbdhfpakajdaaaReaders
set_option linter.unusedVariables false
namespace Go.Proofs.Ytlbdhfpakajdaaa
open Go.RowKit P

/-- what a call that makes a new slice of integers leaves -/
def Made (w : World) (e : TypeId) (k : IntKind) (xs : List Int) : Ending → World → Prop := fun en w' =>
  ∃ A c ys, Hid (ys = xs) ∧ en = .returned (.slice A ys.length c) ∧ Own w' w.heap.size e k (.slice A ys.length c) ys ∧ Below w.heap.size w w'
/-- what a call that appends to a slice of its caller's own leaves -/
def More (w : World) (base : Nat) (e : TypeId) (k : IntKind) (xs : List Int) : Ending → World → Prop := fun en w' =>
  ∃ A c ys, Hid (ys = xs) ∧ en = .returned (.slice A ys.length c) ∧ Own w' base e k (.slice A ys.length c) ys ∧ Below base w w'

theorem take_succ {xs : List Int} {k : Nat} {x : Int} (h : xs[k]? = some x) : xs.take (k + 1) = xs.take k ++ [x] := by
  rw [List.take_add_one, h]; rfl
theorem mem_at {xs : List Int} {k : Nat} {x : Int} (h : xs[k]? = some x) : x ∈ xs := List.mem_of_getElem? h
def I32 (xs : List Int) : Prop := ∀ x ∈ xs, -2147483648 ≤ x ∧ x ≤ 2147483647

set_option maxHeartbeats 1000000 in
theorem appendSlow_neg {base : Nat} {v : Value} {xs : List Int} {w : World} {r : Int} (h : -2147483648 ≤ r) (h' : r < 0) (hown : Own w base 5 .u8 v xs) (hl : xs.length + 4 ≤ 140737488355328) (hb : base ≤ w.heap.size) :
    Calls Try.prog 28 #[v, .int .i32 r] w (More w base 5 .u8 (xs ++ enc r)) := by
  go_enter Try.func28, Try.ntmps28
  go_wp2_with (at_builtin; refine wpList_appN _ rfl _ _ 26 rfl base 5 .u8 1 Try.underlying26 info_u8 [239, 191, 189] rfl 3 rfl hown rfl rfl (by omega) (by unfold maxLen; omega) hb ?_; intro A1 c1 acc1 w1 he1 hown1 hg1)
  go_ret
  refine ⟨A1, c1, acc1, ?_, rfl, hown1, hg1.below_new hown hb⟩
  show acc1 = _
  rw [he1.out, enc, Lib.encodeRuneZ_bad (by omega)]
set_option maxHeartbeats 1000000 in
theorem appendSlow_two {base : Nat} {v : Value} {xs : List Int} {w : World} {r : Int} (h : 128 ≤ r) (h' : r < 2048) (hown : Own w base 5 .u8 v xs) (hl : xs.length + 4 ≤ 140737488355328) (hb : base ≤ w.heap.size) :
    Calls Try.prog 28 #[v, .int .i32 r] w (More w base 5 .u8 (xs ++ enc r)) := by
  go_enter Try.func28, Try.ntmps28
  go_wp2_with (at_builtin; refine wpList_appN _ rfl _ _ 26 rfl base 5 .u8 1 Try.underlying26 info_u8 [192 + r / 64, 128 + r % 64] rfl 2 rfl hown rfl rfl (by omega) (by unfold maxLen; omega) hb ?_; intro A1 c1 acc1 w1 he1 hown1 hg1)
  go_ret
  refine ⟨A1, c1, acc1, ?_, rfl, hown1, hg1.below_new hown hb⟩
  show acc1 = _
  rw [he1.out, enc, Lib.encodeRuneZ_two (by omega) (by omega)]
set_option maxHeartbeats 1000000 in
theorem appendSlow_lo {base : Nat} {v : Value} {xs : List Int} {w : World} {r : Int} (h : 2048 ≤ r) (h' : r < 55296) (hown : Own w base 5 .u8 v xs) (hl : xs.length + 4 ≤ 140737488355328) (hb : base ≤ w.heap.size) :
    Calls Try.prog 28 #[v, .int .i32 r] w (More w base 5 .u8 (xs ++ enc r)) := by
  go_enter Try.func28, Try.ntmps28
  go_wp2_with (at_builtin; refine wpList_appN _ rfl _ _ 26 rfl base 5 .u8 1 Try.underlying26 info_u8 [224 + r / 4096, 128 + r / 64 % 64, 128 + r % 64] rfl 3 rfl hown rfl rfl (by omega) (by unfold maxLen; omega) hb ?_; intro A1 c1 acc1 w1 he1 hown1 hg1)
  go_ret
  refine ⟨A1, c1, acc1, ?_, rfl, hown1, hg1.below_new hown hb⟩
  show acc1 = _
  rw [he1.out, enc, Lib.encodeRuneZ_three (by omega)]
set_option maxHeartbeats 1000000 in
theorem appendSlow_sur {base : Nat} {v : Value} {xs : List Int} {w : World} {r : Int} (h : 55296 ≤ r) (h' : r ≤ 57343) (hown : Own w base 5 .u8 v xs) (hl : xs.length + 4 ≤ 140737488355328) (hb : base ≤ w.heap.size) :
    Calls Try.prog 28 #[v, .int .i32 r] w (More w base 5 .u8 (xs ++ enc r)) := by
  go_enter Try.func28, Try.ntmps28
  go_wp2_with (at_builtin; refine wpList_appN _ rfl _ _ 26 rfl base 5 .u8 1 Try.underlying26 info_u8 [239, 191, 189] rfl 3 rfl hown rfl rfl (by omega) (by unfold maxLen; omega) hb ?_; intro A1 c1 acc1 w1 he1 hown1 hg1)
  go_ret
  refine ⟨A1, c1, acc1, ?_, rfl, hown1, hg1.below_new hown hb⟩
  show acc1 = _
  rw [he1.out, enc, Lib.encodeRuneZ_bad (by omega)]
set_option maxHeartbeats 1000000 in
theorem appendSlow_hi {base : Nat} {v : Value} {xs : List Int} {w : World} {r : Int} (h : 57343 < r) (h' : r < 65536) (hown : Own w base 5 .u8 v xs) (hl : xs.length + 4 ≤ 140737488355328) (hb : base ≤ w.heap.size) :
    Calls Try.prog 28 #[v, .int .i32 r] w (More w base 5 .u8 (xs ++ enc r)) := by
  go_enter Try.func28, Try.ntmps28
  go_wp2_with (at_builtin; refine wpList_appN _ rfl _ _ 26 rfl base 5 .u8 1 Try.underlying26 info_u8 [224 + r / 4096, 128 + r / 64 % 64, 128 + r % 64] rfl 3 rfl hown rfl rfl (by omega) (by unfold maxLen; omega) hb ?_; intro A1 c1 acc1 w1 he1 hown1 hg1)
  go_ret
  refine ⟨A1, c1, acc1, ?_, rfl, hown1, hg1.below_new hown hb⟩
  show acc1 = _
  rw [he1.out, enc, Lib.encodeRuneZ_three (by omega)]
set_option maxHeartbeats 1000000 in
theorem appendSlow_four {base : Nat} {v : Value} {xs : List Int} {w : World} {r : Int} (h : 65536 ≤ r) (h' : r ≤ 1114111) (hown : Own w base 5 .u8 v xs) (hl : xs.length + 4 ≤ 140737488355328) (hb : base ≤ w.heap.size) :
    Calls Try.prog 28 #[v, .int .i32 r] w (More w base 5 .u8 (xs ++ enc r)) := by
  go_enter Try.func28, Try.ntmps28
  go_wp2_with (at_builtin; refine wpList_appN _ rfl _ _ 26 rfl base 5 .u8 1 Try.underlying26 info_u8 [240 + r / 262144, 128 + r / 4096 % 64, 128 + r / 64 % 64, 128 + r % 64] rfl 4 rfl hown rfl rfl (by omega) (by unfold maxLen; omega) hb ?_; intro A1 c1 acc1 w1 he1 hown1 hg1)
  go_ret
  refine ⟨A1, c1, acc1, ?_, rfl, hown1, hg1.below_new hown hb⟩
  show acc1 = _
  rw [he1.out, enc, Lib.encodeRuneZ_four (by omega) (by omega)]
set_option maxHeartbeats 1000000 in
theorem appendSlow_big {base : Nat} {v : Value} {xs : List Int} {w : World} {r : Int} (h : 1114111 < r) (h' : r ≤ 2147483647) (hown : Own w base 5 .u8 v xs) (hl : xs.length + 4 ≤ 140737488355328) (hb : base ≤ w.heap.size) :
    Calls Try.prog 28 #[v, .int .i32 r] w (More w base 5 .u8 (xs ++ enc r)) := by
  go_enter Try.func28, Try.ntmps28
  go_wp2_with (at_builtin; refine wpList_appN _ rfl _ _ 26 rfl base 5 .u8 1 Try.underlying26 info_u8 [239, 191, 189] rfl 3 rfl hown rfl rfl (by omega) (by unfold maxLen; omega) hb ?_; intro A1 c1 acc1 w1 he1 hown1 hg1)
  go_ret
  refine ⟨A1, c1, acc1, ?_, rfl, hown1, hg1.below_new hown hb⟩
  show acc1 = _
  rw [he1.out, enc, Lib.encodeRuneZ_bad (by omega)]
theorem appendSlow_any {base : Nat} {v : Value} {xs : List Int} {w : World} {r : Int} (h : -2147483648 ≤ r) (h' : r ≤ 2147483647) (hn : r < 0 ∨ 128 ≤ r) (hown : Own w base 5 .u8 v xs) (hl : xs.length + 4 ≤ 140737488355328) (hb : base ≤ w.heap.size) :
    Calls Try.prog 28 #[v, .int .i32 r] w (More w base 5 .u8 (xs ++ enc r)) := by
  rcases ways r with k | ⟨k, k'⟩ | ⟨k, k'⟩ | ⟨k, k'⟩ | ⟨k, k'⟩ | ⟨k, k'⟩ | ⟨k, k'⟩ | k
  · exact appendSlow_neg h k hown hl hb
  · omega
  · exact appendSlow_two k k' hown hl hb
  · exact appendSlow_lo k k' hown hl hb
  · exact appendSlow_sur k k' hown hl hb
  · exact appendSlow_hi k k' hown hl hb
  · exact appendSlow_four k k' hown hl hb
  · exact appendSlow_big k h' hown hl hb
set_option maxHeartbeats 1000000 in
theorem appendRune_any {base : Nat} {v : Value} {xs : List Int} {w : World} {r : Int} (h : -2147483648 ≤ r) (h' : r ≤ 2147483647) (hown : Own w base 5 .u8 v xs) (hl : xs.length + 4 ≤ 140737488355328) (hb : base ≤ w.heap.size) :
    Calls Try.prog 21 #[v, .int .i32 r] w (More w base 5 .u8 (xs ++ enc r)) := by
  rcases (by omega : r < 0 ∨ (0 ≤ r ∧ r < 128) ∨ 128 ≤ r) with k | ⟨k, k'⟩ | k
  · go_enter Try.func21, Try.ntmps21
    go_wp2_with (go_at_call 28; refine (appendSlow_any h h' (.inl k) hown hl hb).mono ?_; rintro e w1 ⟨A1, c1, ys, hys, rfl, hown1, hb1⟩)
    go_ret
    exact ⟨A1, c1, ys, hys, rfl, hown1, hb1⟩
  · go_enter Try.func21, Try.ntmps21
    go_wp2_with (at_builtin; refine wpList_app1 _ rfl _ _ 26 rfl base 5 .u8 1 Try.underlying26 info_u8 r hown rfl rfl (by omega) (by unfold maxLen; omega) hb ?_; intro A1 c1 acc1 w1 he1 hown1 hg1)
    go_ret
    refine ⟨A1, c1, acc1, ?_, rfl, hown1, hg1.below_new hown hb⟩
    show acc1 = _
    rw [he1.out, enc, Lib.encodeRuneZ_one (by omega) (by omega)]
  · go_enter Try.func21, Try.ntmps21
    go_wp2_with (go_at_call 28; refine (appendSlow_any h h' (.inr k) hown hl hb).mono ?_; rintro e w1 ⟨A1, c1, ys, hys, rfl, hown1, hb1⟩)
    go_ret
    exact ⟨A1, c1, ys, hys, rfl, hown1, hb1⟩

theorem encs_len (rs : List Int) : rs.length ≤ (encs rs).length ∧ (encs rs).length ≤ 4 * rs.length := by
  induction rs with
  | nil => simp [encs_nil]
  | cons r rs ih => rw [encs_cons]; have := enc_len r; simp; omega

set_option maxHeartbeats 1000000 in
theorem appendBytes_any {A A' : Option Addr} {bs rs : List Int} {c c' : Nat} {w : World} (hb : Rd w .u8 A bs) (hr : Rd w .i32 A' rs) (hi : I32 rs) (hl : bs.length + 4 * rs.length ≤ 140737488355328) :
    Calls Try.prog 10 #[.slice A bs.length c, .slice A' rs.length c'] w (Made w 5 .u8 (bs ++ encs rs)) := by
  go_enter Try.func10, Try.ntmps10
  go_wp2_with (at_builtin; refine wpList_appRd _ rfl _ _ 26 rfl w.heap.size 5 .u8 1 Try.underlying26 info_u8 c (hb.alloc _) _ rfl (Own.empty _ _ _) rfl rfl (by simp; omega) (by unfold maxLen; simp; omega) (by simp) ?_; intro A1 c1 acc1 w1 he1 hown1 hg1)
  have hb1 : Below w.heap.size w w1 := hg1.below_lit
  have hacc1 : Hid (acc1 = bs ++ encs (rs.take 0)) := by show acc1 = _; rw [he1.out]; simp [encs_nil]
  clear hg1 he1
  go_loopw [5, 13] (fun v i wr => ∃ (k : Nat) (A : Option Addr) (c : Nat) (acc : List Int), k ≤ rs.length ∧ i = .int .i64 k ∧ Hid (acc = bs ++ encs (rs.take k)) ∧ v = .slice A acc.length c ∧ Own wr w.heap.size 5 .u8 (.slice A acc.length c) acc ∧ Below w.heap.size w wr)
    (fun _ i _ => rs.length - (intOf i).toNat)
  case atStart => exact ⟨0, A1, c1, acc1, Nat.zero_le _, rfl, hacc1, rfl, hown1, hb1⟩
  case round =>
    clear hown1 hb1 hacc1
    obtain ⟨k, A2, c2, acc, hk, rfl, hacc, rfl, hown, hbel⟩ := hrel
    have hle : acc.length ≤ bs.length + 4 * k := by
      rw [hacc.out, List.length_append]
      have h1 := (encs_len (rs.take k)).2
      have h2 := List.length_take_le k rs
      omega
    have hsz := hbel.size
    by_cases hlt : k < rs.length
    · obtain ⟨b, off, x, rfl, hb, hxk, hcx⟩ := (hr.next hbel).at_ hlt
      have hx32 := hi x (mem_at hxk)
      have HX := Lib.hid hxk
      clear hxk
      have h1 : (k : Int) < (rs.length : Int) := by omega
      go_wp2_with (go_at_call 21; refine (appendRune_any hx32.1 hx32.2 hown (by omega) hsz).mono ?_; rintro e w2 ⟨A3, c3, ys, hys, rfl, hown2, hb2⟩)
      go_roundw
      case rel =>
        refine ⟨k + 1, A3, c3, ys, by omega, by go_num, ?_, rfl, hown2, hbel.trans hb2⟩
        show ys = _
        rw [hys.out, hacc.out, take_succ HX.out, encs_append, List.append_assoc, encs_cons, encs_nil, List.append_nil]
      case measure => simp [intOf]; omega
    · have h1 : ¬ (k : Int) < (rs.length : Int) := by omega
      go_wp2
      go_ret
      refine ⟨A2, c2, acc, ?_, rfl, hown, hbel⟩
      show acc = _
      rw [hacc.out, List.take_of_length_le (by omega)]
theorem appendNil_any {A' : Option Addr} {rs : List Int} {c' : Nat} {w : World} (hr : Rd w .i32 A' rs) (hi : I32 rs) (hl : 4 * rs.length ≤ 140737488355328) :
    Calls Try.prog 10 #[.slice none 0 0, .slice A' rs.length c'] w (Made w 5 .u8 (encs rs)) :=
  appendBytes_any (bs := []) (c := 0) (Rd.nil w .u8 none) hr hi (by simpa using hl)
set_option maxHeartbeats 400000 in
theorem copied_any {A : Option Addr} {bs : List Int} {c : Nat} {w : World} (hb : Rd w .u8 A bs) (hl : bs.length ≤ 140737488355328) :
    Calls Try.prog 13 #[.slice A bs.length c] w (Made w 5 .u8 bs) := by
  go_enter Try.func13, Try.ntmps13
  go_wp2_with (at_builtin; refine wpList_appRd _ rfl _ _ 26 rfl w.heap.size 5 .u8 1 Try.underlying26 info_u8 c (hb.alloc _) _ rfl (Own.empty _ _ _) rfl rfl (by simp; omega) (by unfold maxLen; simp; omega) (by simp) ?_; intro A1 c1 acc1 w1 he1 hown1 hg1)
  go_ret
  exact ⟨A1, c1, acc1, (show acc1 = bs by simpa using he1.out), rfl, hown1, hg1.below_lit⟩
end Go.Proofs.Ytlbdhfpakajdaaa
