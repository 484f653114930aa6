/- Contracts of the functions that only compute. -/
import Derived.Test.YtlbdhfpakajdaaaMem
import Derived.Test.YtlbdhfpakajdaaaPlain16
set_option linter.unusedVariables false
namespace Go.Proofs.Ytlbdhfpakajdaaa
open Go.RowKit P

theorem ret_bool {a b : Bool} (h : a = b) : Ending.returned (.bool a) = .returned (.bool b) := by rw [h]
theorem ret_int {k : IntKind} {a b : Int} (h : a = b) : Ending.returned (.int k a) = .returned (.int k b) := by rw [h]

/-! ### bits -/
theorem toNat_ofInt (n : Nat) (x : Int) : (BitVec.ofInt n x).toNat = (x % (2 ^ n : Nat)).toNat := BitVec.toNat_ofInt x
theorem and_i64 (x : Int) : bits .and .i64 x 65535 = x % 65536 := by
  show IntKind.i64.wrap ((BitVec.ofInt 64 x &&& BitVec.ofInt 64 65535).toNat : Int) = _
  rw [BitVec.toNat_and, toNat_ofInt, toNat_ofInt, show ((65535 : Int) % (2 ^ 64 : Nat)).toNat = 2 ^ 16 - 1 by decide, Nat.and_two_pow_sub_one_eq_mod, IntKind.wrap_i64]
  omega
theorem and_i32 (x : Int) (h : 0 ≤ x) (h' : x < 2147483648) : bits .and .i32 x 1023 = x % 1024 := by
  show IntKind.i32.wrap ((BitVec.ofInt 32 x &&& BitVec.ofInt 32 1023).toNat : Int) = _
  rw [BitVec.toNat_and, toNat_ofInt, toNat_ofInt, show ((1023 : Int) % (2 ^ 32 : Nat)).toNat = 2 ^ 10 - 1 by decide, Nat.and_two_pow_sub_one_eq_mod, IntKind.wrap_i32]
  omega
theorem or_i32 (x y : Int) (h : 0 ≤ x) (h' : x < 2000000) (k : 0 ≤ y) (k' : y < 1024) : bits .or .i32 (x * 1024) y = x * 1024 + y := by
  show IntKind.i32.wrap ((BitVec.ofInt 32 (x * 1024) ||| BitVec.ofInt 32 y).toNat : Int) = _
  rw [BitVec.toNat_or, toNat_ofInt, toNat_ofInt]
  have e1 : ((x * 1024) % (2 ^ 32 : Nat)).toNat = 2 ^ 10 * x.toNat := by omega
  have e2 : (y % (2 ^ 32 : Nat)).toNat = y.toNat := by omega
  rw [e1, e2, ← Nat.two_pow_add_eq_or_of_lt (by omega : y.toNat < 2 ^ 10), IntKind.wrap_i32]
  omega
set_option maxRecDepth 100000 in
theorem and_u8_all : ∀ b : Fin 256, ((b.val &&& 192 != 128) = !(decide (128 ≤ b.val ∧ b.val < 192))) := by decide
theorem and_u8 (b : Int) (h0 : 0 ≤ b) (h1 : b < 256) : (bits .and .u8 b 192 != 128) = !isC b := by
  have h := and_u8_all ⟨b.toNat, by omega⟩
  have e : bits .and .u8 b 192 = ((b.toNat &&& 192 : Nat) : Int) := by
    show IntKind.u8.wrap ((BitVec.ofInt 8 b &&& BitVec.ofInt 8 192).toNat : Int) = _
    rw [BitVec.toNat_and, toNat_ofInt, toNat_ofInt, show ((192 : Int) % (2 ^ 8 : Nat)).toNat = 192 by decide, show (b % (2 ^ 8 : Nat)).toNat = b.toNat by omega]
    have : b.toNat &&& 192 ≤ 192 := Nat.and_le_right
    rw [IntKind.wrap_u8]; omega
  rw [e]
  simp only [isC]
  rw [Bool.eq_iff_iff] at h ⊢
  simp only [bne_iff_ne, Bool.not_eq_true', decide_eq_false_iff_not] at h ⊢
  omega

/-- where a rune lies -/
theorem ways (r : Int) : r < 0 ∨ (0 ≤ r ∧ r < 128) ∨ (128 ≤ r ∧ r < 2048) ∨ (2048 ≤ r ∧ r < 55296) ∨ (55296 ≤ r ∧ r ≤ 57343) ∨ (57343 < r ∧ r < 65536) ∨ (65536 ≤ r ∧ r ≤ 1114111) ∨ 1114111 < r := by omega

theorem isGood_any (r : Int) (w : World) : Calls Try.prog 24 #[.int .i32 r] w fun e w' => e = .returned (.bool (good r)) ∧ w = w' := by
  rcases ways r with h | ⟨h, h'⟩ | ⟨h, h'⟩ | ⟨h, h'⟩ | ⟨h, h'⟩ | ⟨h, h'⟩ | ⟨h, h'⟩ | h
  all_goals
    go_enter Try.func24, Try.ntmps24
    go_wp2
    go_ret
    exact ⟨ret_bool (by first | (simp [good]; done) | (simp [good]; omega) | (rw [Bool.eq_iff_iff]; simp [good]; omega)), rfl⟩
theorem goodRune_any (r : Int) (w : World) : Calls Try.prog 19 #[.int .i32 r] w fun e w' => e = .returned (.bool (good r)) ∧ w = w' := by
  rcases ways r with h | ⟨h, h'⟩ | ⟨h, h'⟩ | ⟨h, h'⟩ | ⟨h, h'⟩ | ⟨h, h'⟩ | ⟨h, h'⟩ | h
  all_goals
    go_enter Try.func19, Try.ntmps19
    go_wp2
    go_ret
    exact ⟨ret_bool (by first | (simp [good]; done) | (simp [good]; omega) | (rw [Bool.eq_iff_iff]; simp [good]; omega)), rfl⟩
/-- how many bytes a number has, or -1 -/
def len8 (r : Int) : Int := if good r = true then ((enc r).length : Int) else -1
theorem len8_val (r : Int) : len8 r = if r < 0 then -1 else if r < 128 then 1 else if r < 2048 then 2 else if r < 55296 then 3 else if r ≤ 57343 then -1 else if r < 65536 then 3 else if r ≤ 1114111 then 4 else -1 := by
  unfold len8
  by_cases hg : good r = true
  · rw [if_pos hg]
    rcases enc_forms hg with ⟨_, _, e⟩ | ⟨_, _, e⟩ | ⟨_, _, h, e⟩ | ⟨_, _, e⟩ <;> rw [e] <;> rw [good_iff] at hg <;> simp only [List.length_cons, List.length_nil] <;> repeat' split
    all_goals omega
  · rw [if_neg hg]
    rw [good_iff] at hg
    repeat' split
    all_goals omega
theorem runeLen8_any (r : Int) (w : World) : Calls Try.prog 22 #[.int .i32 r] w fun e w' => e = .returned (.int .i64 (len8 r)) ∧ w = w' := by
  rcases ways r with h | ⟨h, h'⟩ | ⟨h, h'⟩ | ⟨h, h'⟩ | ⟨h, h'⟩ | ⟨h, h'⟩ | ⟨h, h'⟩ | h
  all_goals
    go_enter Try.func22, Try.ntmps22
    go_wp2
    go_ret
    refine ⟨ret_int ?_, rfl⟩
    rw [len8_val]
    repeat' split
    all_goals first | rfl | omega
/-- how many code units a number has, or -1 -/
def len16 (r : Int) : Int := if good r = true then ((enc16 r).length : Int) else -1
theorem len16_val (r : Int) : len16 r = if r < 0 then -1 else if r < 55296 then 1 else if r ≤ 57343 then -1 else if r < 65536 then 1 else if r ≤ 1114111 then 2 else -1 := by
  unfold len16
  by_cases hg : good r = true
  · rw [if_pos hg]
    have hf := fix_of_good hg
    rcases enc16_forms r with ⟨_, _, _, _, e⟩ | ⟨_, _, _, _, e⟩ <;> rw [e] <;> rw [hf] at * <;> rw [good_iff] at hg <;> simp only [List.length_cons, List.length_nil] <;> repeat' split
    all_goals omega
  · rw [if_neg hg]
    rw [good_iff] at hg
    repeat' split
    all_goals omega
theorem runeLen16_any (r : Int) (w : World) : Calls Try.prog 30 #[.int .i32 r] w fun e w' => e = .returned (.int .i64 (len16 r)) ∧ w = w' := by
  rcases ways r with h | ⟨h, h'⟩ | ⟨h, h'⟩ | ⟨h, h'⟩ | ⟨h, h'⟩ | ⟨h, h'⟩ | ⟨h, h'⟩ | h
  all_goals
    go_enter Try.func30, Try.ntmps30
    go_wp2
    go_ret
    refine ⟨ret_int ?_, rfl⟩
    rw [len16_val]
    repeat' split
    all_goals first | rfl | omega


def signOf (n : Int) : Int := if n < 0 then -1 else if n > 0 then 1 else 0



theorem decodeRune16_pair (a b : Int) (h : isPair a b = true) (w : World) : Calls Try.prog 33 #[.int .i32 a, .int .i32 b] w fun e w' => e = .returned (.int .i32 (pairR a b)) ∧ w = w' := by
  rw [isPair_iff] at h
  obtain ⟨⟨h1, h2⟩, h3, h4⟩ := h
  have hor := or_i32 (a - 55296) (b - 56320) (by omega) (by omega) (by omega) (by omega)
  go_enter Try.func33, Try.ntmps33
  go_wp2
  go_ret
  exact ⟨ret_int (by unfold pairR; first | rfl | omega), rfl⟩
theorem decodeRune16_none (a b : Int) (h : isPair a b = false) (w : World) : Calls Try.prog 33 #[.int .i32 a, .int .i32 b] w fun e w' => e = .returned (.int .i32 65533) ∧ w = w' := by
  rw [isPair_false] at h
  rcases (by omega : a < 55296 ∨ 56320 ≤ a ∨ (55296 ≤ a ∧ a < 56320 ∧ b < 56320) ∨ (55296 ≤ a ∧ a < 56320 ∧ 57344 ≤ b)) with k | k | ⟨k, k', k''⟩ | ⟨k, k', k''⟩
  all_goals
    clear h
    go_enter Try.func33, Try.ntmps33
    go_wp2
    go_ret
    exact ⟨rfl, rfl⟩

theorem encodeRune16_any (r : Int) (h : 65536 ≤ r) (h' : r ≤ 1114111) (w : World) : Calls Try.prog 31 #[.int .i32 r] w fun e w' => e = .returned (.tuple #[.int .i32 (55296 + (r - 65536) / 1024), .int .i32 (56320 + (r - 65536) % 1024)]) ∧ w = w' := by
  have e1 := and_i32 ((r - 65536) / 1024) (by omega) (by omega)
  have e2 := and_i32 (r - 65536) (by omega) (by omega)
  have e3 : (r - 65536) / 1024 % 1024 = (r - 65536) / 1024 := by omega
  rw [e3] at e1
  clear e3
  go_enter Try.func31, Try.ntmps31
  go_wp2
  go_ret2
  exact ⟨rfl, rfl⟩
end Go.Proofs.Ytlbdhfpakajdaaa
