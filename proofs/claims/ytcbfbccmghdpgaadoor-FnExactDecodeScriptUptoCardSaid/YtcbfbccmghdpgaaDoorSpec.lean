/- Contracts of the reference's small functions: isRune, tail, Encoding, sameBytes. -/
import Derived.Test.YtcbfbccmghdpgaaDoorBytes
import Derived.Laws.BytesArg
set_option linter.unusedVariables false
namespace Go.Proofs.YtcbfbccmghdpgaaDoor
open Go.RowKit P

theorem isRuneS_any (r : Int) (w : World) : Calls Tryd.prog 76 #[.int .i32 r] w fun e w' => e = .returned (.bool (good r)) ∧ w = w' := by
  rcases ways r with h | ⟨h, h'⟩ | ⟨h, h'⟩ | ⟨h, h'⟩ | ⟨h, h'⟩ | ⟨h, h'⟩ | ⟨h, h'⟩ | h
  all_goals
    go_enter Tryd.func76, Tryd.ntmps76
    go_wp2
    go_ret
    exact ⟨ret_bool (by first | (simp [good]; done) | (simp [good]; omega) | (rw [Bool.eq_iff_iff]; simp [good]; omega)), rfl⟩
theorem and63_i32 (x : Int) (h : 0 ≤ x) (h' : x < 2147483648) : bits .and .i32 x 63 = x % 64 := by
  show IntKind.i32.wrap ((BitVec.ofInt 32 x &&& BitVec.ofInt 32 63).toNat : Int) = _
  rw [BitVec.toNat_and, toNat_ofInt, toNat_ofInt, show ((63 : Int) % (2 ^ 32 : Nat)).toNat = 2 ^ 6 - 1 by decide, Nat.and_two_pow_sub_one_eq_mod, IntKind.wrap_i32]
  omega
theorem tailS_any (r : Int) (h : 0 ≤ r) (h' : r < 2147483648) (w : World) : Calls Tryd.prog 82 #[.int .i32 r] w fun e w' => e = .returned (.int .u8 (128 + r % 64)) ∧ w = w' := by
  have e1 := and63_i32 r h h'
  have e2 : 0 ≤ r % 64 := by omega
  have e3 : r % 64 < 64 := by omega
  generalize r % 64 = q at *
  go_enter Tryd.func82, Tryd.ntmps82
  go_wp2
  go_ret
  exact ⟨ret_int (by omega), rfl⟩
theorem Own.lit (w : World) (e : TypeId) (k : IntKind) (cs : Array Value) (xs : List Int) (h : cs.toList = xs.map (Value.int k)) (hm : xs.length ≤ maxLen) :
    Own (w.alloc (.cells cs e)) w.heap.size e k (.slice (some ⟨w.heap.size, 0, none⟩) xs.length xs.length) xs := by
  have hs : cs.size = xs.length := by rw [← Array.length_toList, h, List.length_map]
  refine ⟨by simp, .inr ⟨w.heap.size, xs.length, cs, rfl, Nat.le_refl _, heap_alloc_new w _, Nat.le_refl _, hm, by omega, ?_⟩⟩
  rw [h, Nat.mul_one, List.take_of_length_le (by simp)]
set_option maxHeartbeats 1000000 in
theorem encodingS_any (r : Int) (h0 : -2147483648 ≤ r) (h1 : r ≤ 2147483647) (w : World) : Calls Tryd.prog 78 #[.int .i32 r] w (Made w 5 .u8 (enc r)) := by
  have hal : ∀ cs, Below w.heap.size w (w.alloc (.cells cs 5)) := fun cs => (Below.refl _ _).alloc (Nat.le_refl _) _
  rcases ways r with h | ⟨h, h'⟩ | ⟨h, h'⟩ | ⟨h, h'⟩ | ⟨h, h'⟩ | ⟨h, h'⟩ | ⟨h, h'⟩ | h
  · have hg : good r = false := by rw [good_false]; omega
    go_enter Tryd.func78, Tryd.ntmps78
    go_wp2_with (go_at_call 76; refine (isRuneS_any r _).mono ?_; rw [hg]; rintro e w' ⟨rfl, rfl⟩)
    go_ret
    refine ⟨_, 3, [239, 191, 189], ?_, rfl, Own.lit w 5 .u8 _ [239, 191, 189] rfl (by decide), hal _⟩
    show _ = _; rw [enc, Lib.encodeRuneZ_bad (by omega)]
  · have hg : good r = true := by rw [good_iff]; omega
    go_enter Tryd.func78, Tryd.ntmps78
    go_wp2_with (go_at_call 76; refine (isRuneS_any r _).mono ?_; rw [hg]; rintro e w' ⟨rfl, rfl⟩)
    go_ret
    refine ⟨_, 1, [r], ?_, rfl, Own.lit w 5 .u8 _ [r] rfl (by unfold maxLen; simp), hal _⟩
    show _ = _; rw [enc, Lib.encodeRuneZ_one (by omega) (by omega)]
  · have hg : good r = true := by rw [good_iff]; omega
    go_enter Tryd.func78, Tryd.ntmps78
    go_wp2_with (first
      | (go_at_call 76; refine (isRuneS_any r _).mono ?_; rw [hg]; rintro e w' ⟨rfl, rfl⟩)
      | (go_at_call 82; refine (tailS_any r (by omega) (by omega) _).mono ?_; rintro e w' ⟨rfl, rfl⟩))
    go_ret
    refine ⟨_, 2, [192 + r / 64, 128 + r % 64], ?_, rfl, Own.lit w 5 .u8 _ [192 + r / 64, 128 + r % 64] rfl (by unfold maxLen; simp), hal _⟩
    show _ = _; rw [enc, Lib.encodeRuneZ_two (by omega) (by omega)]
  · have hg : good r = true := by rw [good_iff]; omega
    obtain ⟨a, ea, ha0, ha1⟩ : ∃ a, r / 64 = a ∧ 0 ≤ a ∧ a < 2147483648 := ⟨_, rfl, by omega, by omega⟩
    obtain ⟨b, eb, hb0, hb1, hb2⟩ : ∃ b, r / 4096 = b ∧ 0 ≤ b ∧ b < 2147483648 ∧ b ≤ 272 := ⟨_, rfl, by omega, by omega, by omega⟩
    obtain ⟨d, ed, hd0, hd1⟩ : ∃ d, r / 262144 = d ∧ 0 ≤ d ∧ d ≤ 4 := ⟨_, rfl, by omega, by omega⟩
    have hb3 : b ≤ 15 := by omega
    have hr0 : 0 ≤ r := by omega
    have hr1 : r < 2147483648 := by omega
    have EA := Lib.hid ea
    have EB := Lib.hid eb
    have ED := Lib.hid ed
    go_enter Tryd.func78, Tryd.ntmps78
    go_wp2_with (first
      | (go_at_call 76; refine (isRuneS_any r _).mono ?_; rw [hg]; rintro e w' ⟨rfl, rfl⟩)
      | (go_at_call 82; refine (tailS_any r hr0 hr1 _).mono ?_; rintro e w' ⟨rfl, rfl⟩)
      | (go_at_call 82; refine (tailS_any a ha0 ha1 _).mono ?_; rintro e w' ⟨rfl, rfl⟩))
    go_ret
    refine ⟨_, 3, [224 + b, 128 + a % 64, 128 + r % 64], ?_, rfl, Own.lit w 5 .u8 _ [224 + b, 128 + a % 64, 128 + r % 64] rfl (by unfold maxLen; simp), hal _⟩
    show _ = _; rw [enc, Lib.encodeRuneZ_three (by omega), EA.out, EB.out]
  · have hg : good r = false := by rw [good_false]; omega
    go_enter Tryd.func78, Tryd.ntmps78
    go_wp2_with (go_at_call 76; refine (isRuneS_any r _).mono ?_; rw [hg]; rintro e w' ⟨rfl, rfl⟩)
    go_ret
    refine ⟨_, 3, [239, 191, 189], ?_, rfl, Own.lit w 5 .u8 _ [239, 191, 189] rfl (by decide), hal _⟩
    show _ = _; rw [enc, Lib.encodeRuneZ_bad (by omega)]
  · have hg : good r = true := by rw [good_iff]; omega
    obtain ⟨a, ea, ha0, ha1⟩ : ∃ a, r / 64 = a ∧ 0 ≤ a ∧ a < 2147483648 := ⟨_, rfl, by omega, by omega⟩
    obtain ⟨b, eb, hb0, hb1, hb2⟩ : ∃ b, r / 4096 = b ∧ 0 ≤ b ∧ b < 2147483648 ∧ b ≤ 272 := ⟨_, rfl, by omega, by omega, by omega⟩
    obtain ⟨d, ed, hd0, hd1⟩ : ∃ d, r / 262144 = d ∧ 0 ≤ d ∧ d ≤ 4 := ⟨_, rfl, by omega, by omega⟩
    have hb3 : b ≤ 15 := by omega
    have hr0 : 0 ≤ r := by omega
    have hr1 : r < 2147483648 := by omega
    have EA := Lib.hid ea
    have EB := Lib.hid eb
    have ED := Lib.hid ed
    go_enter Tryd.func78, Tryd.ntmps78
    go_wp2_with (first
      | (go_at_call 76; refine (isRuneS_any r _).mono ?_; rw [hg]; rintro e w' ⟨rfl, rfl⟩)
      | (go_at_call 82; refine (tailS_any r hr0 hr1 _).mono ?_; rintro e w' ⟨rfl, rfl⟩)
      | (go_at_call 82; refine (tailS_any a ha0 ha1 _).mono ?_; rintro e w' ⟨rfl, rfl⟩))
    go_ret
    refine ⟨_, 3, [224 + b, 128 + a % 64, 128 + r % 64], ?_, rfl, Own.lit w 5 .u8 _ [224 + b, 128 + a % 64, 128 + r % 64] rfl (by unfold maxLen; simp), hal _⟩
    show _ = _; rw [enc, Lib.encodeRuneZ_three (by omega), EA.out, EB.out]
  · have hg : good r = true := by rw [good_iff]; omega
    obtain ⟨a, ea, ha0, ha1⟩ : ∃ a, r / 64 = a ∧ 0 ≤ a ∧ a < 2147483648 := ⟨_, rfl, by omega, by omega⟩
    obtain ⟨b, eb, hb0, hb1, hb2⟩ : ∃ b, r / 4096 = b ∧ 0 ≤ b ∧ b < 2147483648 ∧ b ≤ 272 := ⟨_, rfl, by omega, by omega, by omega⟩
    obtain ⟨d, ed, hd0, hd1⟩ : ∃ d, r / 262144 = d ∧ 0 ≤ d ∧ d ≤ 4 := ⟨_, rfl, by omega, by omega⟩
    have hr0 : 0 ≤ r := by omega
    have hr1 : r < 2147483648 := by omega
    have EA := Lib.hid ea
    have EB := Lib.hid eb
    have ED := Lib.hid ed
    go_enter Tryd.func78, Tryd.ntmps78
    go_wp2_with (first
      | (go_at_call 76; refine (isRuneS_any r _).mono ?_; rw [hg]; rintro e w' ⟨rfl, rfl⟩)
      | (go_at_call 82; refine (tailS_any r hr0 hr1 _).mono ?_; rintro e w' ⟨rfl, rfl⟩)
      | (go_at_call 82; refine (tailS_any a ha0 ha1 _).mono ?_; rintro e w' ⟨rfl, rfl⟩)
      | (go_at_call 82; refine (tailS_any b hb0 hb1 _).mono ?_; rintro e w' ⟨rfl, rfl⟩))
    go_ret
    refine ⟨_, 4, [240 + d, 128 + b % 64, 128 + a % 64, 128 + r % 64], ?_, rfl, Own.lit w 5 .u8 _ [240 + d, 128 + b % 64, 128 + a % 64, 128 + r % 64] rfl (by unfold maxLen; simp), hal _⟩
    show _ = _; rw [enc, Lib.encodeRuneZ_four (by omega) (by omega), EA.out, EB.out, ED.out]
  · have hg : good r = false := by rw [good_false]; omega
    go_enter Tryd.func78, Tryd.ntmps78
    go_wp2_with (go_at_call 76; refine (isRuneS_any r _).mono ?_; rw [hg]; rintro e w' ⟨rfl, rfl⟩)
    go_ret
    refine ⟨_, 3, [239, 191, 189], ?_, rfl, Own.lit w 5 .u8 _ [239, 191, 189] rfl (by decide), hal _⟩
    show _ = _; rw [enc, Lib.encodeRuneZ_bad (by omega)]
theorem toList_inj {a b : ByteArray} (h : a.toList = b.toList) : a = b := by
  rw [ByteArray.toList_eq, ByteArray.toList_eq] at h
  obtain ⟨da⟩ := a
  obtain ⟨db⟩ := b
  have h2 : da = db := Array.toList_inj.1 h
  rw [h2]
theorem strOfNums_inj {xs ys : List Int} (hx : Bytes xs) (hy : Bytes ys) (h : strOfNums xs = strOfNums ys) : xs = ys := by
  have h1 : (xs.map fun n => UInt8.ofNat n.toNat) = ys.map fun n => UInt8.ofNat n.toNat := by
    have := congrArg (fun a : ByteArray => a.data.toList) h
    simpa [strOfNums_data] using this
  have hl : xs.length = ys.length := by simpa using congrArg List.length h1
  apply List.ext_getElem hl
  intro i h2 h3
  have h4 := congrArg (fun l => l[i]?) h1
  simp only [List.getElem?_map, List.getElem?_eq_getElem h2, List.getElem?_eq_getElem h3, Option.map_some, Option.some.injEq] at h4
  have h5 := congrArg UInt8.toNat h4
  rw [UInt8.toNat_ofNat', UInt8.toNat_ofNat'] at h5
  have h6 := hx _ (List.getElem_mem h2)
  have h7 := hy _ (List.getElem_mem h3)
  omega
theorem sameBytesS_any {A A' : Option Addr} {xs ys : List Int} {c c' n m : Nat} {w : World} (hx : Rd w .u8 A xs) (hy : Rd w .u8 A' ys) (bx : Bytes xs) (by_ : Bytes ys) (hn : xs.length = n) (hm : ys.length = m) (h0 : 0 < n) (h1 : 0 < m) :
    Calls Tryd.prog 77 #[.slice A n c, .slice A' m c'] w fun e w' => e = .returned (.bool (decide (xs = ys))) ∧ w = w' := by
  subst hn hm
  obtain ⟨b, off, rfl, hb, hc⟩ := hx h0
  obtain ⟨b', off', rfl, hb', hc'⟩ := hy h1
  have f1 := run_convert_bytes_arg (P := Tryd.prog) w 29 5 Tryd.underlying29 Tryd.underlying5 b off xs.length c xs rfl (fun i hi => by
    rw [hc i xs[i] (List.getElem?_eq_getElem hi)]; simp [List.getD, List.getElem?_eq_getElem hi]) 9 Tryd.underlying9
  have f2 := run_convert_bytes_arg (P := Tryd.prog) w 29 5 Tryd.underlying29 Tryd.underlying5 b' off' ys.length c' ys rfl (fun i hi => by
    rw [hc' i ys[i] (List.getElem?_eq_getElem hi)]; simp [List.getD, List.getElem?_eq_getElem hi]) 9 Tryd.underlying9
  go_enter Tryd.func77, Tryd.ntmps77
  go_wp2
  go_ret
  refine ⟨ret_bool ?_, rfl⟩
  rw [Bool.eq_iff_iff, beq_iff_eq, decide_eq_true_iff]
  constructor
  · intro h
    exact strOfNums_inj bx by_ (toList_inj h)
  · rintro rfl; rfl
end Go.Proofs.YtcbfbccmghdpgaaDoor
