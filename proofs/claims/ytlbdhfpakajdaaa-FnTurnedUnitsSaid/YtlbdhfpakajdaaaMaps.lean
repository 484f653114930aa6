/- Contracts of the functions that make one value of each element, or keep some: ByteLens, UnitLens, ValidRunes, SurrogatesOf, StartEach, goods, goodOnes, endsOf, summed. -/
import Derived.Test.YtlbdhfpakajdaaaAppB
set_option linter.unusedVariables false
namespace Go.Proofs.Ytlbdhfpakajdaaa
open Go.RowKit P
set_option maxHeartbeats 1000000 in
theorem byteLens_any {A : Option Addr} {xs : List Int} {c : Nat} {w : World} (hx : Rd w .i32 A xs) (hl : xs.length ≤ 17592186044408) :
    Calls Try.prog 12 #[.slice A xs.length c] w (Made w 3 .i64 (xs.map fun x => len8 x)) := by
  go_enter Try.func12, Try.ntmps12
  go_wp2
  go_loopw [3, 9] (fun v i wr => ∃ (k : Nat) (A : Option Addr) (c : Nat) (acc : List Int), k ≤ xs.length ∧ i = .int .i64 k ∧ Hid (acc = (xs.take k).map fun x => len8 x) ∧ v = .slice A acc.length c ∧ Own wr w.heap.size 3 .i64 (.slice A acc.length c) acc ∧ Below w.heap.size w wr)
    (fun _ i _ => xs.length - (intOf i).toNat)
  case atStart => exact ⟨0, _, 0, [], Nat.zero_le _, rfl, rfl, rfl, Own.empty _ _ _, (Below.refl _ _).alloc (Nat.le_refl _) _⟩
  case round =>
    obtain ⟨k, A', c', acc, hk, rfl, hacc, rfl, hown, hbel⟩ := hrel
    have hle : acc.length ≤ k := by rw [hacc.out, List.length_map]; exact List.length_take_le _ _
    have hsz := hbel.size
    by_cases hlt : k < xs.length
    · obtain ⟨b, off, x, rfl, hb, hxk, hcx⟩ := (hx.next hbel).at_ hlt
      have HX := Lib.hid hxk
      clear hxk
      have h1 : (k : Int) < (xs.length : Int) := by omega
      go_wp2_with (first
        | (go_at_call 22; refine (runeLen8_any _ _).mono ?_; rintro e w' ⟨rfl, rfl⟩)
        | (at_builtin; refine wpList_app1 _ rfl _ _ 30 rfl w.heap.size 3 .i64 8 Try.underlying30 info_int (len8 x) hown rfl rfl (by omega) (by unfold maxLen; omega) (by omega) ?_; intro A1 c1 acc1 w1 he1 hown1 hg1))
      have hb1 := hg1.below_new hown hsz
      clear hown hg1
      go_roundw
      case rel =>
        refine ⟨k + 1, _, _, acc1, by omega, by go_num, ?_, rfl, hown1, hbel.trans hb1⟩
        show acc1 = _
        rw [he1.out, hacc.out, take_succ HX.out, List.map_append]; rfl
      case measure => simp [intOf]; omega
    · have h1 : ¬ (k : Int) < (xs.length : Int) := by omega
      go_wp2
      go_ret
      refine ⟨A', c', acc, ?_, rfl, hown, hbel⟩
      show acc = _
      rw [hacc.out, List.take_of_length_le (by omega)]
set_option maxHeartbeats 1000000 in
theorem goods_any {A : Option Addr} {xs : List Int} {c : Nat} {w : World} (hx : Rd w .i32 A xs) (hl : xs.length ≤ 35184372088832) :
    Calls Try.prog 15 #[.slice A xs.length c] w (Made w 21 .i32 (xs.filter good)) := by
  go_enter Try.func15, Try.ntmps15
  go_wp2
  go_loopw [3, 8] (fun v i wr => ∃ (k : Nat) (A : Option Addr) (c : Nat) (acc : List Int), k ≤ xs.length ∧ i = .int .i64 k ∧ Hid (acc = (xs.take k).filter good) ∧ v = .slice A acc.length c ∧ Own wr w.heap.size 21 .i32 (.slice A acc.length c) acc ∧ Below w.heap.size w wr)
    (fun _ i _ => xs.length - (intOf i).toNat)
  case atStart => exact ⟨0, none, 0, [], Nat.zero_le _, rfl, rfl, rfl, Own.nil _ _ _ _, Below.refl _ _⟩
  case round =>
    obtain ⟨k, A', c', acc, hk, rfl, hacc, rfl, hown, hbel⟩ := hrel
    have hle : acc.length ≤ k := by rw [hacc.out]; exact Nat.le_trans (List.length_filter_le _ _) (List.length_take_le _ _)
    have hsz := hbel.size
    by_cases hlt : k < xs.length
    · obtain ⟨b, off, x, rfl, hb, hxk, hcx⟩ := (hx.next hbel).at_ hlt
      have HX := Lib.hid hxk
      clear hxk
      have h1 : (k : Int) < (xs.length : Int) := by omega
      by_cases hg : good x = true
      · go_wp2_with (first
          | (go_at_call 24; refine (isGood_any _ _).mono ?_; rintro e w' ⟨rfl, rfl⟩)
          | (at_builtin; refine wpList_app1 _ rfl _ _ 22 rfl w.heap.size 21 .i32 4 Try.underlying22 info_i32 x hown rfl rfl (by omega) (by unfold maxLen; omega) (by omega) ?_; intro A1 c1 acc1 w1 he1 hown1 hg1))
        have hb1 := hg1.below_new hown hsz
        clear hown hg1
        go_roundw
        case rel =>
          refine ⟨k + 1, _, _, acc1, by omega, by go_num, ?_, rfl, hown1, hbel.trans hb1⟩
          show acc1 = _
          rw [he1.out, hacc.out, take_succ HX.out, List.filter_append]; simp [hg]
        case measure => simp [intOf]; omega
      · have hg' : good x = false := by simpa using hg
        go_wp2_with (go_at_call 24; refine (isGood_any _ _).mono ?_; rintro e w' ⟨rfl, rfl⟩)
        go_roundw
        case rel =>
          refine ⟨k + 1, _, _, acc, by omega, by go_num, ?_, rfl, hown, hbel⟩
          show acc = _
          rw [hacc.out, take_succ HX.out, List.filter_append]; simp [hg']
        case measure => simp [intOf]; omega
    · have h1 : ¬ (k : Int) < (xs.length : Int) := by omega
      go_wp2
      go_ret
      refine ⟨A', c', acc, ?_, rfl, hown, hbel⟩
      show acc = _
      rw [hacc.out, List.take_of_length_le (by omega)]
set_option maxHeartbeats 1000000 in
theorem goodOnes_any {A : Option Addr} {xs : List Int} {c : Nat} {w : World} (hx : Rd w .i32 A xs) (hl : xs.length ≤ 35184372088832) :
    Calls Try.prog 7 #[.slice A xs.length c] w (Made w 21 .i32 (xs.filter good)) := by
  go_enter Try.func7, Try.ntmps7
  go_wp2
  go_loopw [3, 9] (fun v i wr => ∃ (k : Nat) (A : Option Addr) (c : Nat) (acc : List Int), k ≤ xs.length ∧ i = .int .i64 k ∧ Hid (acc = (xs.take k).filter good) ∧ v = .slice A acc.length c ∧ Own wr w.heap.size 21 .i32 (.slice A acc.length c) acc ∧ Below w.heap.size w wr)
    (fun _ i _ => xs.length - (intOf i).toNat)
  case atStart => exact ⟨0, _, 0, [], Nat.zero_le _, rfl, rfl, rfl, Own.empty _ _ _, (Below.refl _ _).alloc (Nat.le_refl _) _⟩
  case round =>
    obtain ⟨k, A', c', acc, hk, rfl, hacc, rfl, hown, hbel⟩ := hrel
    have hle : acc.length ≤ k := by rw [hacc.out]; exact Nat.le_trans (List.length_filter_le _ _) (List.length_take_le _ _)
    have hsz := hbel.size
    by_cases hlt : k < xs.length
    · obtain ⟨b, off, x, rfl, hb, hxk, hcx⟩ := (hx.next hbel).at_ hlt
      have HX := Lib.hid hxk
      clear hxk
      have h1 : (k : Int) < (xs.length : Int) := by omega
      by_cases hg : good x = true
      · go_wp2_with (first
          | (go_at_call 19; refine (goodRune_any _ _).mono ?_; rintro e w' ⟨rfl, rfl⟩)
          | (at_builtin; refine wpList_app1 _ rfl _ _ 22 rfl w.heap.size 21 .i32 4 Try.underlying22 info_i32 x hown rfl rfl (by omega) (by unfold maxLen; omega) (by omega) ?_; intro A1 c1 acc1 w1 he1 hown1 hg1))
        have hb1 := hg1.below_new hown hsz
        clear hown hg1
        go_roundw
        case rel =>
          refine ⟨k + 1, _, _, acc1, by omega, by go_num, ?_, rfl, hown1, hbel.trans hb1⟩
          show acc1 = _
          rw [he1.out, hacc.out, take_succ HX.out, List.filter_append]; simp [hg]
        case measure => simp [intOf]; omega
      · have hg' : good x = false := by simpa using hg
        go_wp2_with (go_at_call 19; refine (goodRune_any _ _).mono ?_; rintro e w' ⟨rfl, rfl⟩)
        go_roundw
        case rel =>
          refine ⟨k + 1, _, _, acc, by omega, by go_num, ?_, rfl, hown, hbel⟩
          show acc = _
          rw [hacc.out, take_succ HX.out, List.filter_append]; simp [hg']
        case measure => simp [intOf]; omega
    · have h1 : ¬ (k : Int) < (xs.length : Int) := by omega
      go_wp2
      go_ret
      refine ⟨A', c', acc, ?_, rfl, hown, hbel⟩
      show acc = _
      rw [hacc.out, List.take_of_length_le (by omega)]

/-- the places behind each of some sizes -/
def ends : Int → List Int → List Int
  | _, [] => []
  | a, n :: l => (a + n) :: ends (a + n) l
theorem ends_length (a : Int) (l : List Int) : (ends a l).length = l.length := by
  induction l generalizing a with
  | nil => rfl
  | cons n l ih => simp [ends, ih]
theorem ends_snoc (a n : Int) (l : List Int) : ends a (l ++ [n]) = ends a l ++ [a + l.sum + n] := by
  induction l generalizing a with
  | nil => simp [ends]
  | cons m l ih => simp only [List.cons_append, ends, ih, List.sum_cons]; rw [Int.add_assoc a m]
theorem sum_bound (lo hi : Int) (l : List Int) (h : ∀ x ∈ l, lo ≤ x ∧ x ≤ hi) : lo * l.length ≤ l.sum ∧ l.sum ≤ hi * l.length := by
  induction l with
  | nil => simp
  | cons x l ih =>
    have h1 := h x (by simp)
    have h2 := ih (fun y hy => h y (by simp [hy]))
    simp only [List.sum_cons, List.length_cons, Int.natCast_add, Int.mul_add]
    omega

set_option maxHeartbeats 1000000 in
theorem endsOf_any {A : Option Addr} {xs : List Int} {c : Nat} {w : World} (hx : Rd w .i64 A xs) (hi : ∀ x ∈ xs, -4 ≤ x ∧ x ≤ 4) (hl : xs.length ≤ 10000000000) :
    Calls Try.prog 11 #[.slice A xs.length c] w (Made w 3 .i64 (0 :: ends 0 xs)) := by
  have hst : Own (w.alloc (.cells #[.int .i64 0] 3)) w.heap.size 3 .i64 (.slice (some ⟨w.heap.size, 0, none⟩) 1 1) [0] :=
    ⟨rfl, .inr ⟨w.heap.size, 1, #[.int .i64 0], rfl, Nat.le_refl _, heap_alloc_new w _, Nat.le_refl _, by decide, rfl, rfl⟩⟩
  have HST := Lib.hid hst
  clear hst
  go_enter Try.func11, Try.ntmps11
  go_wp2
  go_loopw [3, 4, 10] (fun v s i wr => ∃ (k : Nat) (A : Option Addr) (c : Nat) (acc : List Int) (t : Int), k ≤ xs.length ∧ i = .int .i64 k ∧ Hid (acc = 0 :: ends 0 (xs.take k)) ∧ Hid (t = (xs.take k).sum) ∧ s = .int .i64 t ∧ v = .slice A acc.length c ∧ Own wr w.heap.size 3 .i64 (.slice A acc.length c) acc ∧ Below w.heap.size w wr)
    (fun _ _ i _ => xs.length - (intOf i).toNat)
  case atStart => exact ⟨0, _, 1, [0], 0, Nat.zero_le _, rfl, rfl, by show _ = _; simp, rfl, rfl, HST.out, (Below.refl _ _).alloc (Nat.le_refl _) _⟩
  case round =>
    obtain ⟨k, A', c', acc, t, hk, rfl, hacc, ht, rfl, rfl, hown, hbel⟩ := hrel
    have hle : acc.length ≤ k + 1 := by rw [hacc.out, List.length_cons, ends_length]; have := List.length_take_le k xs; omega
    have hsz := hbel.size
    have htb := sum_bound (-4) 4 (xs.take k) (fun x hx => hi x (List.mem_of_mem_take hx))
    have htl := List.length_take_le k xs
    rw [← ht.out] at htb
    have ht0 : -4 * (k : Int) ≤ t := by omega
    have ht1 : t ≤ 4 * (k : Int) := by omega
    clear htb htl
    by_cases hlt : k < xs.length
    · obtain ⟨b, off, x, rfl, hb, hxk, hcx⟩ := (hx.next hbel).at_ hlt
      have hbd := hi x (mem_at hxk)
      have hbd0 := hbd.1
      have hbd1 := hbd.2
      have HX := Lib.hid hxk
      clear hxk hbd
      have h1 : (k : Int) < (xs.length : Int) := by omega
      go_wp2_with (at_builtin; refine wpList_app1 _ rfl _ _ 30 rfl w.heap.size 3 .i64 8 Try.underlying30 info_int (t + x) hown rfl rfl (by omega) (by unfold maxLen; omega) (by omega) ?_; intro A1 c1 acc1 w1 he1 hown1 hg1)
      have hb1 := hg1.below_new hown hsz
      clear hown hg1
      go_roundw
      case rel =>
        refine ⟨k + 1, _, _, acc1, t + x, by omega, by go_num, ?_, ?_, rfl, rfl, hown1, hbel.trans hb1⟩
        · show acc1 = _
          rw [he1.out, hacc.out, take_succ HX.out, ends_snoc, ht.out]; simp
        · show t + x = _
          rw [take_succ HX.out, List.sum_append, ht.out]; simp
      case measure => simp [intOf]; omega
    · have h1 : ¬ (k : Int) < (xs.length : Int) := by omega
      go_wp2
      go_ret
      refine ⟨A', c', acc, ?_, rfl, hown, hbel⟩
      show acc = _
      rw [hacc.out, List.take_of_length_le (by omega)]
end Go.Proofs.Ytlbdhfpakajdaaa
