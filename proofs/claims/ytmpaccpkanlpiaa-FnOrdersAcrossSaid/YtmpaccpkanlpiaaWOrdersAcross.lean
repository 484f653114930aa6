/- FnOrdersAcross: the walk. -/
import Derived.Test.YtmpaccpkanlpiaaUnitOrder
import Derived.Test.YtmpaccpkanlpiaaUnits2
import Derived.Test.YtmpaccpkanlpiaaMaps
set_option linter.unusedVariables false
namespace Go.Proofs.Ytmpaccpkanlpiaa
open Go.RowKit P

theorem filter_le (xs : List Int) : (xs.filter good).length ≤ xs.length := List.length_filter_le _ _
theorem I32.good {xs ys : List Int} (h : I32 xs) (e : ys = xs.filter P.good) : I32 ys := fun x hx => h x (by rw [e] at hx; exact (List.mem_filter.1 hx).1)

set_option maxHeartbeats 2000000 in
theorem ordersAcross_walk {A B : Option Addr} {fs ss : List Int} {c d : Nat} {w : World} (hf : Rd w .i32 A fs) (hs : Rd w .i32 B ss) (if_ : I32 fs) (is_ : I32 ss) (lf : fs.length ≤ 35184372088832) (ls : ss.length ≤ 35184372088832) :
    Calls Try.prog 10 #[.slice A fs.length c, .slice B ss.length d] w fun e w' => e = .returned (.bool true) ∧ Below w.heap.size w w' := by
  go_enter Try.func10, Try.ntmps10
  go_wp2_with fail
  refine (goods_any hf (by omega)).mono ?_
  rintro e w1 ⟨A1, c1, x, hx, rfl, o1, l1⟩
  go_wp2_with fail
  refine (goods_any (hs.next l1) (by omega)).mono ?_
  rintro e w2 ⟨A2, c2, y, hy, rfl, o2, l2⟩
  have zx : x.length ≤ 35184372088832 := by rw [hx.out]; have := filter_le fs; omega
  have zy : y.length ≤ 35184372088832 := by rw [hy.out]; have := filter_le ss; omega
  have ix := if_.good hx.out
  have iy := is_.good hy.out
  have gx : ∀ r ∈ x, good r = true := by rw [hx.out]; exact good_filter fs
  have gy : ∀ r ∈ y, good r = true := by rw [hy.out]; exact good_filter ss
  have rx := (o1.next l2).rd
  have ry := o2.rd
  have l02 := bnext l1 l2
  have GX := Lib.hid gx
  have GY := Lib.hid gy
  clear o1 o2 l1 l2 hf hs gx gy
  go_wp2_with fail
  refine (runeOrder_any rx ry (by omega) (by omega)).mono ?_
  rintro e w3 ⟨rfl, n3, rfl⟩
  have l3 := bdrewN l02 n3
  have rx3 := rx.drewN n3
  have ry3 := ry.drewN n3
  clear rx ry l02
  generalize w2.drewN n3 = w3 at *
  go_wp2_with fail
  refine (appendNil_any rx3 ix (by omega)).mono ?_
  rintro e w4 ⟨A4, c4, b1, hb1, rfl, o4, l4⟩
  go_wp2_with fail
  refine (appendNil_any (ry3.next l4) iy (by omega)).mono ?_
  rintro e w5 ⟨A5, c5, b2, hb2, rfl, o5, l5⟩
  have z1 : b1.length ≤ 1000000000000000 := by rw [hb1.out]; have := (encs_len x).2; omega
  have z2 : b2.length ≤ 1000000000000000 := by rw [hb2.out]; have := (encs_len y).2; omega
  have E1 : ord id b1 b2 = ord id x y := by rw [hb1.out, hb2.out]; exact ord_encs GX.out GY.out
  have HE := Lib.hid E1
  clear E1
  go_wp2_with fail
  refine (textOrder_any (o4.next l5).rd o5.rd z1 z2).mono ?_
  rintro e w6 ⟨rfl, n6, rfl⟩
  rw [HE.out]
  have l6 := bnext l3 (bdrewN (bnext l4 l5) n6)
  have rx6 := rx3.next (bdrewN (bnext l4 l5) n6)
  have ry6 := ry3.next (bdrewN (bnext l4 l5) n6)
  clear o4 o5 l4 l5 l3 rx3 ry3
  generalize w5.drewN n6 = w6 at *
  generalize hd : ord id x y = d
  have HD := Lib.hid hd
  clear hd
  have dd : (d == d) = true := by simp
  go_wp2_with fail
  refine (encodeUnits_any rx6 ix (by omega)).mono ?_
  rintro e w7 ⟨A7, c7, u1, hu1, rfl, o7, l7⟩
  go_wp2_with fail
  refine (encodeUnits_any (ry6.next l7) iy (by omega)).mono ?_
  rintro e w8 ⟨A8, c8, u2, hu2, rfl, o8, l8⟩
  have z7 : u1.length ≤ 1000000000000000 := by rw [hu1.out]; have := (encs16_len x).2; omega
  have z8 : u2.length ≤ 1000000000000000 := by rw [hu2.out]; have := (encs16_len y).2; omega
  have x7 : Units u1 := by rw [hu1.out]; exact encs16_units x
  have x8 : Units u2 := by rw [hu2.out]; exact encs16_units y
  have E2 : ord key16 u1 u2 = d := by rw [hu1.out, hu2.out, ord_encs16 GX.out GY.out, HD.out]
  have HE2 := Lib.hid E2
  clear E2
  go_wp2_with fail
  refine (unitOrder_turned (o7.next l8).rd o8.rd x7 x8 z7 z8).mono ?_
  rintro e w9 ⟨rfl, l9⟩
  rw [HE2.out]
  go_wp2
  go_ret
  exact ⟨rfl, bnext (bnext l6 (bnext l7 l8)) l9⟩
end Go.Proofs.Ytmpaccpkanlpiaa
