/- FnPlainOrder: the walk. -/
import Derived.Test.YtmpaccpkanlpiaaUnitOrder
import Derived.Test.YtmpaccpkanlpiaaUnits2
import Derived.Test.YtmpaccpkanlpiaaWGoods
set_option linter.unusedVariables false
namespace Go.Proofs.Ytmpaccpkanlpiaa
open Go.RowKit P

theorem plain_step {xs ys : List Int} {k : Nat} {x y : Int} (hx : xs[k]? = some x) (hy : ys[k]? = some y) :
    plainOrd (xs.drop k) (ys.drop k) = if x = y then plainOrd (xs.drop (k + 1)) (ys.drop (k + 1)) else if flips x y = true then - sgn (x - y) else sgn (x - y) := by
  obtain ⟨h, rfl⟩ := List.getElem?_eq_some_iff.1 hx
  obtain ⟨h', rfl⟩ := List.getElem?_eq_some_iff.1 hy
  rw [List.drop_eq_getElem_cons h, List.drop_eq_getElem_cons h']
  rfl
theorem plain_end {xs ys : List Int} (h : xs.length = 0 ∨ ys.length = 0) : plainOrd xs ys = ord id xs ys := by
  cases xs with
  | nil => cases ys <;> rfl
  | cons x xs =>
    cases ys with
    | nil => rfl
    | cons y ys => simp at h
theorem sgn_bound (n : Int) : -1 ≤ sgn n ∧ sgn n ≤ 1 := by unfold sgn; repeat' split; all_goals omega
theorem ord_bound (f : Int → Int) : ∀ (xs ys : List Int), -1 ≤ ord f xs ys ∧ ord f xs ys ≤ 1
  | [], [] => by simp [ord]
  | [], _ :: _ => by simp [ord]
  | _ :: _, [] => by simp [ord]
  | x :: xs, y :: ys => by
    rw [ord_cons]
    split
    · exact ord_bound f xs ys
    · exact sgn_bound _

set_option maxHeartbeats 4000000 in
theorem unitOrder_plain {A A' : Option Addr} {xs ys : List Int} {c c' : Nat} {w : World} (hx : Rd w .u16 A xs) (hy : Rd w .u16 A' ys) (ux : Units xs) (uy : Units ys) (hl : xs.length ≤ 1000000000000000) (hl' : ys.length ≤ 1000000000000000) :
    Calls Try.prog 40 #[.slice A xs.length c, .slice A' ys.length c', .bool false] w fun e w' => e = .returned (.int .i64 (ord id xs ys)) ∧ Below w.heap.size w w' := by
  rcases (by omega : xs.length ≤ ys.length ∨ ys.length < xs.length) with hmin | hmin
  all_goals
    go_enter Try.func40, Try.ntmps40
    go_wp2
    go_loopw [15] (fun i wr => ∃ k : Nat, k ≤ xs.length ∧ k ≤ ys.length ∧ i = .int .i64 k ∧ Below w.heap.size w wr ∧ Hid (ord id (xs.drop k) (ys.drop k) = ord id xs ys)) (fun i _ => xs.length - (intOf i).toNat)
    case atStart => exact ⟨0, Nat.zero_le _, Nat.zero_le _, rfl, Below.refl _ _, rfl⟩
    case round =>
      obtain ⟨k, hk, hk', rfl, hbel, hag⟩ := hrel
      by_cases hlt : k < xs.length ∧ k < ys.length
      · obtain ⟨hlt, hlt'⟩ := hlt
        obtain ⟨b, off, x, rfl, hb, hxk, hcx⟩ := (hx.next hbel).at_ hlt
        obtain ⟨b', off', y, rfl, hb', hyk, hcy⟩ := (hy.next hbel).at_ hlt'
        have hst := ord_step id hxk hyk
        rw [hag.out] at hst
        have hbx := ux x (mem_at' hxk)
        have hby := uy y (mem_at' hyk)
        have HS := Lib.hid hst
        have hx0 := hbx.1
        have hx1 := hbx.2
        have hy0 := hby.1
        have hy1 := hby.2
        clear hxk hyk hst hag hbx hby
        have h1 : (k : Int) < (xs.length : Int) := by omega
        have h2 : (k : Int) < (ys.length : Int) := by omega
        by_cases hxy : x = y
        · subst hxy
          go_wp2
          go_quiet (fail)
          go_wp2
          go_roundw
          case rel => exact ⟨k + 1, by omega, by omega, by go_num, bdrewN hbel _, by show _ = _; rw [HS.out]; simp⟩
          case measure => simp [intOf]; omega
        · have hxy' : (x == y) = false := by simpa using hxy
          go_wp2
          go_quiet (fail)
          go_wp2
          go_quiet (fail)
          go_wp2_with (go_at_call 54; refine (sign_any _ _).mono ?_; rintro e w' ⟨rfl, rfl⟩)
          go_ret
          refine ⟨ret_int ?_, bdrewN hbel _⟩
          rw [HS.out, if_neg hxy]
          rfl
      · have h1 : ¬ ((k : Int) < (xs.length : Int) ∧ (k : Int) < (ys.length : Int)) := by omega
        have hend := ord_end id (xs := xs.drop k) (ys := ys.drop k) (by simp; omega)
        rw [hag.out] at hend
        have HE := Lib.hid hend
        clear hend hag hlt
        go_wp2_with (go_at_call 54; refine (sign_any _ _).mono ?_; rintro e w' ⟨rfl, rfl⟩)
        go_ret
        refine ⟨ret_int ?_, hbel⟩
        rw [HE.out, sign_eq]
        simp only [List.length_drop]
        congr 1
        omega

set_option maxHeartbeats 8000000 in
theorem plainOrder_walk {A B : Option Addr} {fs ss : List Int} {c d : Nat} {w : World} (hf : Rd w .i32 A fs) (hs : Rd w .i32 B ss) (if_ : I32 fs) (is_ : I32 ss) (lf : fs.length ≤ 35184372088832) (ls : ss.length ≤ 35184372088832) :
    Calls Try.prog 11 #[.slice A fs.length c, .slice B ss.length d] w fun e w' => e = .returned (.bool true) ∧ Below w.heap.size w w' := by
  go_enter Try.func11, Try.ntmps11
  go_wp2_with fail
  refine (goods_any hf (by omega)).mono ?_
  rintro e w1 ⟨A1, c1, x, hx, rfl, o1, l1⟩
  go_wp2_with fail
  refine (goods_any (hs.next l1) (by omega)).mono ?_
  rintro e w2 ⟨A2, c2, y, hy, rfl, o2, l2⟩
  have zx : x.length ≤ 35184372088832 := by rw [hx.out]; have := filter_le fs; omega
  have zy : y.length ≤ 35184372088832 := by rw [hy.out]; have := filter_le ss; omega
  have ix := if_.good hx.out
  have iy := is_.good hy.out
  have gx : ∀ r ∈ x, good r = true := by rw [hx.out]; exact good_filter fs
  have gy : ∀ r ∈ y, good r = true := by rw [hy.out]; exact good_filter ss
  have GX := Lib.hid gx
  have GY := Lib.hid gy
  have rx := (o1.next l2).rd
  have ry := o2.rd
  have l02 := bnext l1 l2
  clear gx gy hf hs o1 o2 l1 l2
  go_wp2_with fail
  refine (appendNil_any rx ix (by omega)).mono ?_
  rintro e w4 ⟨A4, c4, b1, hb1, rfl, o4, l4⟩
  go_wp2_with fail
  refine (appendNil_any (ry.next l4) iy (by omega)).mono ?_
  rintro e w5 ⟨A5, c5, b2, hb2, rfl, o5, l5⟩
  have z1 : b1.length ≤ 1000000000000000 := by rw [hb1.out]; have := (encs_len x).2; omega
  have z2 : b2.length ≤ 1000000000000000 := by rw [hb2.out]; have := (encs_len y).2; omega
  have E1 : ord id b1 b2 = ord id x y := by rw [hb1.out, hb2.out]; exact ord_encs GX.out GY.out
  have HE := Lib.hid E1
  clear E1
  go_wp2_with fail
  refine (textOrder_any (o4.next l5).rd o5.rd z1 z2).mono ?_
  rintro e w6 ⟨rfl, n6, rfl⟩
  rw [HE.out]
  have l6 := bnext l02 (bdrewN (bnext l4 l5) n6)
  have rx6 := rx.next (bdrewN (bnext l4 l5) n6)
  have ry6 := ry.next (bdrewN (bnext l4 l5) n6)
  clear o4 o5 l4 l5 l02 rx ry
  generalize w5.drewN n6 = w6 at *
  have hdb := ord_bound id x y
  generalize hd : ord id x y = d at hdb
  have HD := Lib.hid hd
  have hd0 := hdb.1
  have hd1 := hdb.2
  clear hd hdb
  rcases (by omega : x.length ≤ y.length ∨ y.length < x.length) with hmin | hmin
  all_goals
    go_wp2
    go_loopw [7, 23] (fun v i wr => ∃ k : Nat, k ≤ x.length ∧ k ≤ y.length ∧ i = .int .i64 k ∧ v = .int .i64 d ∧ Below w6.heap.size w6 wr ∧ Hid (ord id (x.drop k) (y.drop k) = d ∧ plainOrd (x.drop k) (y.drop k) = plainOrd x y)) (fun _ i _ => x.length - (intOf i).toNat)
    case atStart => exact ⟨0, Nat.zero_le _, Nat.zero_le _, rfl, rfl, Below.refl _ _, ⟨HD.out, rfl⟩⟩
    case round =>
      obtain ⟨k, hk, hk', rfl, rfl, hbel, hag⟩ := hrel
      -- what stands behind the loop
      by_cases hlt : k < x.length ∧ k < y.length
      · obtain ⟨hlt, hlt'⟩ := hlt
        obtain ⟨b, off, r, hA1, hb, hxk, hcx⟩ := (rx6.next hbel).at_ hlt
        obtain ⟨b', off', s, hA2, hb', hyk, hcy⟩ := (ry6.next hbel).at_ hlt'
        subst hA1 hA2
        have hst := ord_step id hxk hyk
        have hsp := plain_step hxk hyk
        rw [hag.out.1] at hst
        rw [hag.out.2] at hsp
        have HS := Lib.hid hst
        have HP := Lib.hid hsp
        have g1 := good_iff.1 (GX.out r (mem_at' hxk))
        have g2 := good_iff.1 (GY.out s (mem_at' hyk))
        clear hxk hyk hst hsp hag
        have h1 : (k : Int) < (x.length : Int) := by omega
        have h2 : (k : Int) < (y.length : Int) := by omega
        by_cases hxy : r = s
        · subst hxy
          go_wp2
          go_quiet (fail)
          go_wp2
          go_roundw
          case rel =>
            refine ⟨k + 1, by omega, by omega, by go_num, rfl, bdrewN hbel _, ?_⟩
            have a := HS.out
            have b := HP.out
            simp only [if_true] at a b
            exact ⟨a.symm, b.symm⟩
          case measure => simp [intOf]; omega
        · have hxy' : (r != s) = true := by simpa using hxy
          have q1 := HS.out
          have q2 := HP.out
          rw [if_neg hxy] at q1 q2
          simp only [id] at q1
          have Q1 := Lib.hid q1
          have Q2 := Lib.hid q2
          clear q1 q2 HS HP
          have hz : (((-d) : Int) = plainOrd x y) ∨ True := .inr trivial
          clear hz g1 g2
          rcases (by omega : r ≤ 57343 ∨ (57344 ≤ r ∧ r ≤ 65535) ∨ 65535 < r) with hr | ⟨hr, hr'⟩ | hr <;> rcases (by omega : s ≤ 57343 ∨ (57344 ≤ s ∧ s ≤ 65535) ∨ 65535 < s) with hs | ⟨hs, hs'⟩ | hs
          all_goals
            go_wp2
            go_quiet (fail)
            go_wp2_with fail
            refine (encodeUnits_any ((rx6.next hbel).drewN _) ix (by omega)).mono ?_
            rintro e w7 ⟨A7, c7, u1, hu1, rfl, o7, l7⟩
            go_wp2_with fail
            refine (encodeUnits_any (((ry6.next hbel).drewN _).next l7) iy (by omega)).mono ?_
            rintro e w8 ⟨A8, c8, u2, hu2, rfl, o8, l8⟩
            have z7 : u1.length ≤ 1000000000000000 := by rw [hu1.out]; have := (encs16_len x).2; omega
            have z8 : u2.length ≤ 1000000000000000 := by rw [hu2.out]; have := (encs16_len y).2; omega
            have x7 : Units u1 := by rw [hu1.out]; exact encs16_units x
            have x8 : Units u2 := by rw [hu2.out]; exact encs16_units y
            have E2 : ord id u1 u2 = plainOrd x y := by rw [hu1.out, hu2.out, ord_plain GX.out GY.out]
            have E3 : plainOrd x y = -d ∨ plainOrd x y = d := by rw [Q2.out, Q1.out]; split <;> simp
            have E4 : flips r s = true → plainOrd x y = -d := fun h => by rw [Q2.out, Q1.out, if_pos h]
            have E5 : flips r s = false → plainOrd x y = d := fun h => by rw [Q2.out, Q1.out, if_neg (by simp [h])]
            have HE2 := Lib.hid E2
            have HE4 := Lib.hid E4
            have HE5 := Lib.hid E5
            clear E2 E3 E4 E5
            go_wp2_with fail
            refine (unitOrder_plain (o7.next l8).rd o8.rd x7 x8 z7 z8).mono ?_
            rintro e w9 ⟨rfl, l9⟩
            first
              | rw [HE2.out, HE4.out (by unfold flips; simp only [decide_eq_true_eq]; omega)]
              | rw [HE2.out, HE5.out (by unfold flips; simp only [decide_eq_false_iff_not]; omega)]
            have l79 := bnext (bnext l7 l8) l9
            have l19 := bnext l6 (bnext (bdrewN hbel _) l79)
            have rx9 := ((rx6.next hbel).drewN _).next l79
            go_wp2_with fail
            refine (encodeUnits_any rx9 ix (by omega)).mono ?_
            rintro e w10 ⟨A10, c10, t1, ht1, rfl, o10, l10⟩
            have y10 : x.length ≤ t1.length := by rw [ht1.out]; exact (encs16_len x).1
            go_wp2
            go_ret
            exact ⟨rfl, bnext l19 l10⟩
      · have h1 : ¬ ((k : Int) < (x.length : Int) ∧ (k : Int) < (y.length : Int)) := by omega
        have hend := plain_end (xs := x.drop k) (ys := y.drop k) (by simp; omega)
        rw [hag.out.1, hag.out.2] at hend
        have HEnd := Lib.hid hend
        clear hend hag hlt
        go_wp2_with fail
        refine (encodeUnits_any (rx6.next hbel) ix (by omega)).mono ?_
        rintro e w7 ⟨A7, c7, u1, hu1, rfl, o7, l7⟩
        go_wp2_with fail
        refine (encodeUnits_any ((ry6.next hbel).next l7) iy (by omega)).mono ?_
        rintro e w8 ⟨A8, c8, u2, hu2, rfl, o8, l8⟩
        have z7 : u1.length ≤ 1000000000000000 := by rw [hu1.out]; have := (encs16_len x).2; omega
        have z8 : u2.length ≤ 1000000000000000 := by rw [hu2.out]; have := (encs16_len y).2; omega
        have x7 : Units u1 := by rw [hu1.out]; exact encs16_units x
        have x8 : Units u2 := by rw [hu2.out]; exact encs16_units y
        have E2 : ord id u1 u2 = d := by rw [hu1.out, hu2.out, ord_plain GX.out GY.out, HEnd.out]
        have HE2 := Lib.hid E2
        clear E2
        go_wp2_with fail
        refine (unitOrder_plain (o7.next l8).rd o8.rd x7 x8 z7 z8).mono ?_
        rintro e w9 ⟨rfl, l9⟩
        rw [HE2.out]
        have l79 := bnext (bnext l7 l8) l9
        have l19 := bnext l6 (bnext hbel l79)
        have rx9 := (rx6.next hbel).next l79
        go_wp2_with fail
        refine (encodeUnits_any rx9 ix (by omega)).mono ?_
        rintro e w10 ⟨A10, c10, t1, ht1, rfl, o10, l10⟩
        have y10 : x.length ≤ t1.length := by rw [ht1.out]; exact (encs16_len x).1
        go_wp2
        go_ret
        exact ⟨rfl, bnext l19 l10⟩
end Go.Proofs.Ytmpaccpkanlpiaa
