/- FnLengthsAcross: the walk. -/
import Derived.Test.YtmpaccpkanlpiaaMaps
set_option linter.unusedVariables false
namespace Go.Proofs.Ytmpaccpkanlpiaa
open Go.RowKit P

theorem isGood_q (r : Int) (w : World) : Calls Try.prog 27 #[.int .i32 r] w fun e w' => e = .returned (.bool (good r)) ∧ w' = w := (isGood_any r w).mono fun _ _ h => ⟨h.1, h.2.symm⟩

theorem lens_cases (x : Int) : (good x = false ∧ len8 x = -1 ∧ len16 x = -1) ∨ (good x = true ∧ len8 x = 1 ∧ len16 x = 1) ∨ (good x = true ∧ len8 x = 2 ∧ len16 x = 1) ∨ (good x = true ∧ len8 x = 3 ∧ len16 x = 1) ∨ (good x = true ∧ len8 x = 4 ∧ len16 x = 2) := by
  rw [len8_val, len16_val, good_iff, good_false]
  repeat' split
  all_goals omega

theorem map_at {α : Type} {xs : List Int} {ys : List α} {f : Int → α} {k : Nat} {x : Int} (h : ys = xs.map f) (hx : xs[k]? = some x) : ys[k]? = some (f x) := by
  rw [h, List.getElem?_map, hx]; rfl

set_option maxHeartbeats 4000000 in
theorem lengthsAcross_walk {A : Option Addr} {xs : List Int} {c : Nat} {w : World} (hx : Rd w .i32 A xs) (lx : xs.length ≤ 1048576) :
    Calls Try.prog 5 #[.slice A xs.length c] w fun e w' => e = .returned (.bool true) ∧ Below w.heap.size w w' := by
  go_enter Try.func5, Try.ntmps5
  go_wp2_with fail
  refine (byteLens_any hx (by omega)).mono ?_
  rintro e w1 ⟨A1, c1, bl, hbl, rfl, o1, l1⟩
  go_wp2_with fail
  refine (unitLens_any (hx.next l1) (by omega)).mono ?_
  rintro e w2 ⟨A2, c2, ul, hul, rfl, o2, l2⟩
  go_wp2_with fail
  refine (validRunes_any (hx.next (bnext l1 l2)) (by omega)).mono ?_
  rintro e w3 ⟨A3, c3, vl, hvl, rfl, o3, l3⟩
  have e1 : bl.length = xs.length := by rw [hbl.out, List.length_map]
  have e2 : ul.length = xs.length := by rw [hul.out, List.length_map]
  have e3 : vl.length = xs.length := by rw [hvl.out, List.length_map]
  have r1 := (o1.next (bnext l2 l3)).rd
  have r2 := (o2.next l3).rd
  have r3 := o3.rd
  have l03 := bnext (bnext l1 l2) l3
  have rx := hx.next l03
  clear o1 o2 o3 l1 l2 l3 hx
  go_wp2
  go_loopw [35] (fun i wr => ∃ k : Nat, k ≤ xs.length ∧ i = .int .i64 k ∧ Below w3.heap.size w3 wr) (fun i _ => xs.length - (intOf i).toNat)
  case atStart => exact ⟨0, Nat.zero_le _, rfl, Below.refl _ _⟩
  case round =>
    obtain ⟨k, hk, rfl, hbel⟩ := hrel
    have q1 := Lib.hid e1
    have q2 := Lib.hid e2
    have q3 := Lib.hid e3
    clear e1 e2 e3
    by_cases hlt : k < xs.length
    · obtain ⟨b, off, x, rfl, hb, hxk, hcx⟩ := (rx.next hbel).at_ hlt
      obtain ⟨b1, off1, y1, rfl, hb1, hy1, hc1⟩ := (r1.next hbel).at_ (i := k) (by rw [q1.out]; exact hlt)
      obtain ⟨b2, off2, y2, rfl, hb2, hy2, hc2⟩ := (r2.next hbel).at_ (i := k) (by rw [q2.out]; exact hlt)
      obtain ⟨b3, off3, y3, rfl, hb3, hy3, hc3⟩ := (r3.next hbel).at_ (i := k) (by rw [q3.out]; exact hlt)
      have g1 : y1 = len8 x := by have := map_at hbl.out hxk; rw [hy1] at this; injection this
      have g2 : y2 = len16 x := by have := map_at hul.out hxk; rw [hy2] at this; injection this
      have g3 : y3 = good x := by have := map_at hvl.out hxk; rw [hy3] at this; injection this
      subst g1 g2 g3
      clear hxk hy1 hy2 hy3
      have h1 : (k : Int) < (xs.length : Int) := by omega
      have i1 : (k : Int) < (bl.length : Int) := by rw [q1.out]; omega
      have i2 : (k : Int) < (ul.length : Int) := by rw [q2.out]; omega
      have i3 : (k : Int) < (vl.length : Int) := by rw [q3.out]; omega
      rcases lens_cases x with ⟨p1, p2, p3⟩ | ⟨p1, p2, p3⟩ | ⟨p1, p2, p3⟩ | ⟨p1, p2, p3⟩ | ⟨p1, p2, p3⟩
      all_goals
        rw [p1] at hc3
        rw [p2] at hc1
        rw [p3] at hc2
        go_wp2
        go_quiet ((go_at_call 27; exact Calls.quiet_of_same (isGood_q _ _)))
        go_wp2
        go_roundw
        case rel => exact ⟨k + 1, by omega, by go_num, bdrewN hbel _⟩
        case measure => simp [intOf]; omega
    · have h1 : ¬ (k : Int) < (xs.length : Int) := by omega
      go_wp2
      go_ret
      exact ⟨rfl, bnext l03 hbel⟩
end Go.Proofs.Ytmpaccpkanlpiaa
