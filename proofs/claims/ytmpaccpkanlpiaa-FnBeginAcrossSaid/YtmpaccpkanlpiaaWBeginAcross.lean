/- FnBeginAcross: the walk. -/
import Derived.Test.YtmpaccpkanlpiaaSlices
import Derived.Test.YtmpaccpkanlpiaaUnits2
import Derived.Test.YtmpaccpkanlpiaaWGoods
import Derived.Test.YtmpaccpkanlpiaaPlainFound
set_option linter.unusedVariables false
namespace Go.Proofs.Ytmpaccpkanlpiaa
open Go.RowKit P

theorem pre_yes {p l : List Int} {q : Bool} (h : decide (p <+: l) = q) (hl : p.length ≤ l.length) : decide (p = l.take p.length) = q := by
  rw [← h]
  apply decide_eq_decide.2
  rw [prefix_take]
  exact ⟨fun e => ⟨hl, e.symm⟩, fun e => e.2.symm⟩
theorem pre_no {p l : List Int} {q : Bool} (h : decide (p <+: l) = q) (hl : ¬ p.length ≤ l.length) : q = false := by
  rw [← h]
  simp only [decide_eq_false_iff_not]
  intro k
  exact hl k.length_le
theorem len_take {p l : List Int} (h : p.length ≤ l.length) : (l.take p.length).length = p.length := by rw [List.length_take]; omega

set_option maxHeartbeats 4000000 in
theorem beginAcross_walk {A B : Option Addr} {fs ss : List Int} {c d : Nat} {w : World} (hf : Rd w .i32 A fs) (hs : Rd w .i32 B ss) (if_ : I32 fs) (is_ : I32 ss) (lf : fs.length ≤ 35184372088832) (ls : ss.length ≤ 35184372088832) :
    Calls Try.prog 8 #[.slice A fs.length c, .slice B ss.length d] w fun e w' => e = .returned (.bool true) ∧ Below w.heap.size w w' := by
  go_enter Try.func8, Try.ntmps8
  go_wp2_with fail
  refine (goods_any hf (by omega)).mono ?_
  rintro e w1 ⟨A1, c1, x, hx, rfl, o1, l1⟩
  go_wp2_with fail
  refine (goods_any (hs.next l1) (by omega)).mono ?_
  rintro e w2 ⟨A2, c2, y, hy, rfl, o2, l2⟩
  have zx : x.length ≤ 35184372088832 := by rw [hx.out]; have := filter_le fs; omega
  have zy : y.length ≤ 35184372088832 := by rw [hy.out]; have := filter_le ss; omega
  have ix := if_.good hx.out
  have iy := is_.good hy.out
  have gx : ∀ r ∈ x, good r = true := by rw [hx.out]; exact good_filter fs
  have gy : ∀ r ∈ y, good r = true := by rw [hy.out]; exact good_filter ss
  have GX := Lib.hid gx
  have GY := Lib.hid gy
  have k2 := o2.len.2
  clear gx gy hf hs
  go_wp2_with fail
  refine (appendNil_any (o1.next l2).rd ix (by omega)).mono ?_
  rintro e w4 ⟨A4, c4, b1, hb1, rfl, o4, l4⟩
  go_wp2_with fail
  refine (appendNil_any (o2.next l4).rd iy (by omega)).mono ?_
  rintro e w5 ⟨A5, c5, b2, hb2, rfl, o5, l5⟩
  go_wp2_with fail
  refine (encodeUnits_any (o1.next (bnext l2 (bnext l4 l5))).rd ix (by omega)).mono ?_
  rintro e w7 ⟨A7, c7, u1, hu1, rfl, o7, l7⟩
  go_wp2_with fail
  refine (encodeUnits_any (o2.next (bnext (bnext l4 l5) l7)).rd iy (by omega)).mono ?_
  rintro e w8 ⟨A8, c8, u2, hu2, rfl, o8, l8⟩
  have rx := (o1.next (bnext l2 (bnext (bnext l4 l5) (bnext l7 l8)))).rd
  have ry := (o2.next (bnext (bnext l4 l5) (bnext l7 l8))).rd
  have rb := (o4.next (bnext l5 (bnext l7 l8))).rd
  have rc := (o5.next (bnext l7 l8)).rd
  have ru := (o7.next l8).rd
  have rv := o8.rd
  have k5 := o5.len.2
  have k8 := o8.len.2
  have l08 := bnext (bnext l1 l2) (bnext (bnext l4 l5) (bnext l7 l8))
  have z1 : b1.length ≤ 1000000000000000 := by rw [hb1.out]; have := (encs_len x).2; omega
  have z2 : b2.length ≤ 1000000000000000 := by rw [hb2.out]; have := (encs_len y).2; omega
  have z7 : u1.length ≤ 1000000000000000 := by rw [hu1.out]; have := (encs16_len x).2; omega
  have z8 : u2.length ≤ 1000000000000000 := by rw [hu2.out]; have := (encs16_len y).2; omega
  have eb : decide (b1 <+: b2) = decide (x <+: y) := by rw [hb1.out, hb2.out]; exact decide_eq_decide.2 (encs_prefix GX.out GY.out)
  have eu : decide (u1 <+: u2) = decide (x <+: y) := by rw [hu1.out, hu2.out]; exact decide_eq_decide.2 (encs16_prefix GX.out GY.out)
  generalize hq : decide (x <+: y) = q at eb eu
  have HQ := Lib.hid hq
  have EB := Lib.hid eb
  have EU := Lib.hid eu
  clear hq eb eu o1 o2 o4 o5 o7 o8 l1 l2 l4 l5 l7 l8
  rcases (by omega : x.length ≤ y.length ∨ y.length < x.length) with h1 | h1 <;> rcases (by omega : b1.length ≤ b2.length ∨ b2.length < b1.length) with h2 | h2 <;> rcases (by omega : u1.length ≤ u2.length ∨ u2.length < u1.length) with h3 | h3
  all_goals
    have f1 := fun h => pre_yes HQ.out h
    have f1' := fun h => pre_no HQ.out h
    have f2 := fun h => pre_yes EB.out h
    have f2' := fun h => pre_no EB.out h
    have f3 := fun h => pre_yes EU.out h
    have f3' := fun h => pre_no EU.out h
    have F1 := Lib.hid f1
    have F1' := Lib.hid f1'
    have F2 := Lib.hid f2
    have F2' := Lib.hid f2'
    have F3 := Lib.hid f3
    have F3' := Lib.hid f3'
    clear f1 f1' f2 f2' f3 f3'
    cases q
    all_goals first
      | (exfalso; first | exact absurd (F1'.out (by omega)) (by decide) | exact absurd (F2'.out (by omega)) (by decide) | exact absurd (F3'.out (by omega)) (by decide))
      | (go_wp2_with (first
          | (go_at_call 22; refine (sameRunes_n (by assumption) (Rd.take (by assumption) x.length) rfl (len_take h1) (by omega)).mono ?_; rw [F1.out h1]; rintro e w9 ⟨rfl, n9, rfl⟩)
          | (go_at_call 19; refine (sameBytes_n (by first | exact rb | exact rb.drewN _) (by first | exact Rd.take rc b1.length | exact Rd.take (rc.drewN _) b1.length) rfl (len_take h2) (by omega)).mono ?_; rw [F2.out h2]; rintro e w10 ⟨rfl, n10, rfl⟩)
          | (go_at_call 37; refine (sameUnits_n (by first | exact ru | exact ru.drewN _) (by first | exact Rd.take rv u1.length | exact Rd.take (rv.drewN _) u1.length) rfl (len_take h3) (by omega)).mono ?_; rw [F3.out h3]; rintro e w11 ⟨rfl, n11, rfl⟩))
         go_ret
         exact ⟨rfl, by first | exact l08 | exact bdrewN l08 _ | exact bdrewN (bdrewN l08 _) _ | exact bdrewN (bdrewN (bdrewN l08 _) _) _⟩)
end Go.Proofs.Ytmpaccpkanlpiaa
