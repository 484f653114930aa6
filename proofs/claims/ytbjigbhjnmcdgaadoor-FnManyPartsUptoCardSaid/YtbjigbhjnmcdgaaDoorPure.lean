/- Contracts of the functions that only compute. -/
import Derived.Test.YtbjigbhjnmcdgaaDoorMem
import Derived.Test.YtbjigbhjnmcdgaaDoorPlain16
set_option linter.unusedVariables false
namespace Go.Proofs.YtbjigbhjnmcdgaaDoor
open Go.RowKit P

theorem ret_bool {a b : Bool} (h : a = b) : Ending.returned (.bool a) = .returned (.bool b) := by rw [h]
theorem ret_int {k : IntKind} {a b : Int} (h : a = b) : Ending.returned (.int k a) = .returned (.int k b) := by rw [h]

/-! ### bits -/
theorem toNat_ofInt (n : Nat) (x : Int) : (BitVec.ofInt n x).toNat = (x % (2 ^ n : Nat)).toNat := BitVec.toNat_ofInt x
theorem and_i64 (x : Int) : bits .and .i64 x 65535 = x % 65536 := by
  show IntKind.i64.wrap ((BitVec.ofInt 64 x &&& BitVec.ofInt 64 65535).toNat : Int) = _
  rw [BitVec.toNat_and, toNat_ofInt, toNat_ofInt, show ((65535 : Int) % (2 ^ 64 : Nat)).toNat = 2 ^ 16 - 1 by decide, Nat.and_two_pow_sub_one_eq_mod, IntKind.wrap_i64]
  omega
theorem and_i32 (x : Int) (h : 0 ≤ x) (h' : x < 2147483648) : bits .and .i32 x 1023 = x % 1024 := by
  show IntKind.i32.wrap ((BitVec.ofInt 32 x &&& BitVec.ofInt 32 1023).toNat : Int) = _
  rw [BitVec.toNat_and, toNat_ofInt, toNat_ofInt, show ((1023 : Int) % (2 ^ 32 : Nat)).toNat = 2 ^ 10 - 1 by decide, Nat.and_two_pow_sub_one_eq_mod, IntKind.wrap_i32]
  omega
theorem or_i32 (x y : Int) (h : 0 ≤ x) (h' : x < 2000000) (k : 0 ≤ y) (k' : y < 1024) : bits .or .i32 (x * 1024) y = x * 1024 + y := by
  show IntKind.i32.wrap ((BitVec.ofInt 32 (x * 1024) ||| BitVec.ofInt 32 y).toNat : Int) = _
  rw [BitVec.toNat_or, toNat_ofInt, toNat_ofInt]
  have e1 : ((x * 1024) % (2 ^ 32 : Nat)).toNat = 2 ^ 10 * x.toNat := by omega
  have e2 : (y % (2 ^ 32 : Nat)).toNat = y.toNat := by omega
  rw [e1, e2, ← Nat.two_pow_add_eq_or_of_lt (by omega : y.toNat < 2 ^ 10), IntKind.wrap_i32]
  omega
set_option maxRecDepth 100000 in
theorem and_u8_all : ∀ b : Fin 256, ((b.val &&& 192 != 128) = !(decide (128 ≤ b.val ∧ b.val < 192))) := by decide
theorem and_u8 (b : Int) (h0 : 0 ≤ b) (h1 : b < 256) : (bits .and .u8 b 192 != 128) = !isC b := by
  have h := and_u8_all ⟨b.toNat, by omega⟩
  have e : bits .and .u8 b 192 = ((b.toNat &&& 192 : Nat) : Int) := by
    show IntKind.u8.wrap ((BitVec.ofInt 8 b &&& BitVec.ofInt 8 192).toNat : Int) = _
    rw [BitVec.toNat_and, toNat_ofInt, toNat_ofInt, show ((192 : Int) % (2 ^ 8 : Nat)).toNat = 192 by decide, show (b % (2 ^ 8 : Nat)).toNat = b.toNat by omega]
    have : b.toNat &&& 192 ≤ 192 := Nat.and_le_right
    rw [IntKind.wrap_u8]; omega
  rw [e]
  simp only [isC]
  rw [Bool.eq_iff_iff] at h ⊢
  simp only [bne_iff_ne, Bool.not_eq_true', decide_eq_false_iff_not] at h ⊢
  omega

/-- where a rune lies -/
theorem ways (r : Int) : r < 0 ∨ (0 ≤ r ∧ r < 128) ∨ (128 ≤ r ∧ r < 2048) ∨ (2048 ≤ r ∧ r < 55296) ∨ (55296 ≤ r ∧ r ≤ 57343) ∨ (57343 < r ∧ r < 65536) ∨ (65536 ≤ r ∧ r ≤ 1114111) ∨ 1114111 < r := by omega

theorem goodRune_any (r : Int) (w : World) : Calls Tryd.prog 26 #[.int .i32 r] w fun e w' => e = .returned (.bool (good r)) ∧ w = w' := by
  rcases ways r with h | ⟨h, h'⟩ | ⟨h, h'⟩ | ⟨h, h'⟩ | ⟨h, h'⟩ | ⟨h, h'⟩ | ⟨h, h'⟩ | h
  all_goals
    go_enter Tryd.func26, Tryd.ntmps26
    go_wp2
    go_ret
    exact ⟨ret_bool (by first | (simp [good]; done) | (simp [good]; omega) | (rw [Bool.eq_iff_iff]; simp [good]; omega)), rfl⟩
/-- how many bytes a number has, or -1 -/
def len8 (r : Int) : Int := if good r = true then ((enc r).length : Int) else -1
theorem len8_val (r : Int) : len8 r = if r < 0 then -1 else if r < 128 then 1 else if r < 2048 then 2 else if r < 55296 then 3 else if r ≤ 57343 then -1 else if r < 65536 then 3 else if r ≤ 1114111 then 4 else -1 := by
  unfold len8
  by_cases hg : good r = true
  · rw [if_pos hg]
    rcases enc_forms hg with ⟨_, _, e⟩ | ⟨_, _, e⟩ | ⟨_, _, h, e⟩ | ⟨_, _, e⟩ <;> rw [e] <;> rw [good_iff] at hg <;> simp only [List.length_cons, List.length_nil] <;> repeat' split
    all_goals omega
  · rw [if_neg hg]
    rw [good_iff] at hg
    repeat' split
    all_goals omega
/-- how many code units a number has, or -1 -/
def len16 (r : Int) : Int := if good r = true then ((enc16 r).length : Int) else -1
theorem len16_val (r : Int) : len16 r = if r < 0 then -1 else if r < 55296 then 1 else if r ≤ 57343 then -1 else if r < 65536 then 1 else if r ≤ 1114111 then 2 else -1 := by
  unfold len16
  by_cases hg : good r = true
  · rw [if_pos hg]
    have hf := fix_of_good hg
    rcases enc16_forms r with ⟨_, _, _, _, e⟩ | ⟨_, _, _, _, e⟩ <;> rw [e] <;> rw [hf] at * <;> rw [good_iff] at hg <;> simp only [List.length_cons, List.length_nil] <;> repeat' split
    all_goals omega
  · rw [if_neg hg]
    rw [good_iff] at hg
    repeat' split
    all_goals omega


def signOf (n : Int) : Int := if n < 0 then -1 else if n > 0 then 1 else 0


theorem runeStart_any (b : Int) (h0 : 0 ≤ b) (h1 : b < 256) (w : World) : Calls Tryd.prog 32 #[.int .u8 b] w fun e w' => e = .returned (.bool (!isC b)) ∧ w = w' := by
  go_enter Tryd.func32, Tryd.ntmps32
  go_wp2
  go_ret
  exact ⟨ret_bool (and_u8 b h0 h1), rfl⟩


end Go.Proofs.YtbjigbhjnmcdgaaDoor
