/- FnFoundAcross: the walk. -/
import Derived.Test.YtmpaccpkanlpiaaSlices
import Derived.Test.YtmpaccpkanlpiaaUnits2
import Derived.Test.YtmpaccpkanlpiaaWGoods
import Derived.Test.YtmpaccpkanlpiaaPlainFound
set_option linter.unusedVariables false
namespace Go.Proofs.Ytmpaccpkanlpiaa
open Go.RowKit P

theorem part_eq {p l : List Int} {k : Nat} (h : k + p.length ≤ l.length) : decide ((l.drop k).take p.length = p) = decide (p <+: l.drop k) := by
  apply decide_eq_decide.2
  rw [prefix_take]
  exact ⟨fun e => ⟨by simp; omega, e⟩, fun e => e.2⟩
theorem part_no {p l : List Int} {k : Nat} (h : ¬ k + p.length ≤ l.length) (hk : k ≤ l.length) : ¬ p <+: l.drop k := fun e => by
  have := e.length_le
  simp at this; omega
theorem part_len {p l : List Int} {k : Nat} (h : k + p.length ≤ l.length) : ((l.drop k).take p.length).length = p.length := by simp; omega
theorem occ_drop0 (p l : List Int) : occ p (l.drop l.length) = 0 := by simp [occ]

set_option maxHeartbeats 4000000 in
theorem foundAcross_walk {A B : Option Addr} {fs ss : List Int} {c d : Nat} {w : World} (hf : Rd w .i32 A fs) (hs : Rd w .i32 B ss) (if_ : I32 fs) (is_ : I32 ss) (lf : fs.length ≤ 35184372088832) (ls : ss.length ≤ 35184372088832) :
    Calls Try.prog 9 #[.slice A fs.length c, .slice B ss.length d] w fun e w' => e = .returned (.bool true) ∧ Below w.heap.size w w' := by
  have i32 := info_i32
  have iu8 := info_u8
  have iu16 := info_u16
  obtain ⟨j32, hj32, _, hs32, _⟩ := info_parts i32
  obtain ⟨ju8, hju8, _, hsu8, _⟩ := info_parts iu8
  obtain ⟨ju16, hju16, _, hsu16, _⟩ := info_parts iu16
  have J32 := Lib.hid (And.intro hj32 hs32)
  have JU8 := Lib.hid (And.intro hju8 hsu8)
  have JU16 := Lib.hid (And.intro hju16 hsu16)
  clear i32 iu8 iu16 hj32 hs32 hju8 hsu8 hju16 hsu16
  go_enter Try.func9, Try.ntmps9
  go_wp2_with fail
  refine (goods_any hf (by omega)).mono ?_
  rintro e w1 ⟨A1, c1, x, hx, rfl, o1, l1⟩
  go_wp2_with fail
  refine (goods_any (hs.next l1) (by omega)).mono ?_
  rintro e w2 ⟨A2, c2, y, hy, rfl, o2, l2⟩
  have zx : x.length ≤ 35184372088832 := by rw [hx.out]; have := filter_le fs; omega
  have zy : y.length ≤ 35184372088832 := by rw [hy.out]; have := filter_le ss; omega
  have ix := if_.good hx.out
  have iy := is_.good hy.out
  have gx : ∀ r ∈ x, good r = true := by rw [hx.out]; exact good_filter fs
  have gy : ∀ r ∈ y, good r = true := by rw [hy.out]; exact good_filter ss
  have GX := Lib.hid gx
  have GY := Lib.hid gy
  have rx := (o1.next l2).rd
  have ry := o2.rd
  have k2 := o2.len.2
  have l02 := bnext l1 l2
  clear gx gy hf hs o1 o2 l1 l2
  by_cases hx0 : x.length = 0
  · have hx0' : ((x.length : Int) == 0) = true := by simp only [beq_iff_eq]; omega
    clear hx0
    go_wp2
    go_ret
    exact ⟨rfl, l02⟩
  have hne : x ≠ [] := fun e => hx0 (by rw [e]; rfl)
  have HNE := Lib.hid hne
  have hx0' : ((x.length : Int) == 0) = false := by simp only [beq_eq_false_iff_ne, ne_eq]; omega
  have hxp : 1 ≤ x.length := by omega
  clear hx0 hne
  go_wp2
  go_loopw [7, 26] (fun v i wr => ∃ (k n : Nat), k ≤ y.length ∧ n ≤ k ∧ i = .int .i64 k ∧ v = .int .i64 n ∧ Below w2.heap.size w2 wr ∧ Hid (n + occ x (y.drop k) = occ x y)) (fun _ i _ => y.length - (intOf i).toNat)
  case atStart => exact ⟨0, 0, Nat.zero_le _, Nat.zero_le _, rfl, rfl, Below.refl _ _, by show _ = _; simp⟩
  case round =>
    obtain ⟨k, n, hk, hnk, rfl, rfl, hbel, hag⟩ := hrel
    by_cases hlt : k < y.length
    · have h1 : (k : Int) < (y.length : Int) := by omega
      have hst := occ_drop x hlt
      have HS := Lib.hid hst
      clear hst
      by_cases hfit : k + x.length ≤ y.length
      · have h2 : (k : Int) + (x.length : Int) ≤ (y.length : Int) := by omega
        have hcut := fun W => run_cut (P := Try.prog) (w := W) 22 21 Try.underlying22 j32 J32.out.1 J32.out.2 A2 y.length c2 k (k + x.length) (by omega) (by omega)
        simp only [Int.natCast_add] at hcut
        have hpart := part_eq (p := x) (l := y) (k := k) hfit
        have HPt := Lib.hid hpart
        clear hpart
        by_cases hp : x <+: y.drop k
        · have HPP := Lib.hid hp
          clear hp
          go_wp2_with (go_at_call 22; refine (sameRunes_n (((ry.next hbel).drop c2 k (by omega)).take x.length) (rx.next hbel) (part_len hfit) rfl (by omega)).mono ?_; rw [HPt.out, decide_eq_true HPP.out]; rintro e w9 ⟨rfl, n9, rfl⟩)
          go_roundw
          case rel =>
            refine ⟨k + 1, n + 1, by omega, by omega, by go_num, by go_num, bdrewN hbel _, ?_⟩
            show _ = _
            rw [← hag.out, HS.out, if_pos HPP.out]; omega
          case measure => simp [intOf]; omega
        · have HPP := Lib.hid hp
          clear hp
          go_wp2_with (go_at_call 22; refine (sameRunes_n (((ry.next hbel).drop c2 k (by omega)).take x.length) (rx.next hbel) (part_len hfit) rfl (by omega)).mono ?_; rw [HPt.out, decide_eq_false HPP.out]; rintro e w9 ⟨rfl, n9, rfl⟩)
          go_roundw
          case rel =>
            refine ⟨k + 1, n, by omega, by omega, by go_num, rfl, bdrewN hbel _, ?_⟩
            show _ = _
            rw [← hag.out, HS.out, if_neg HPP.out]; omega
          case measure => simp [intOf]; omega
      · have h2 : ¬ (k : Int) + (x.length : Int) ≤ (y.length : Int) := by omega
        have h3 : decide ((k : Int) + (x.length : Int) ≤ (y.length : Int)) = false := by simpa using h2
        have hp := part_no (p := x) (l := y) hfit (by omega)
        have HPP := Lib.hid hp
        clear hp
        go_wp2
        go_roundw
        case rel =>
          refine ⟨k + 1, n, by omega, by omega, by go_num, rfl, hbel, ?_⟩
          show _ = _
          rw [← hag.out, HS.out, if_neg HPP.out]; omega
        case measure => simp [intOf]; omega
    · have h1 : ¬ (k : Int) < (y.length : Int) := by omega
      have hkk : k = y.length := by omega
      subst hkk
      have hfin : Hid (n = occ x y) := by
        show n = _
        rw [← hag.out, occ_drop0]; rfl
      clear hag hlt hk
      rename_i wr0
      have la := bnext l02 hbel
      have rxa := rx.next hbel
      have rya := ry.next hbel
      clear hbel rx ry l02
      go_wp2_with fail
      refine (appendNil_any rxa ix (by omega)).mono ?_
      rintro e w4 ⟨A4, c4, b1, hb1, rfl, o4, l4⟩
      go_wp2_with fail
      refine (appendNil_any (rya.next l4) iy (by omega)).mono ?_
      rintro e w5 ⟨A5, c5, b2, hb2, rfl, o5, l5⟩
      have z1 : b1.length ≤ 1000000000000000 := by rw [hb1.out]; have := (encs_len x).2; omega
      have z2 : b2.length ≤ 1000000000000000 := by rw [hb2.out]; have := (encs_len y).2; omega
      have k5 := o5.len.2
      have rb := (o4.next l5).rd
      have rc := o5.rd
      have lb := bnext la (bnext l4 l5)
      have rxb := rxa.next (bnext l4 l5)
      have ryb := rya.next (bnext l4 l5)
      have EB : Hid (occ b1 b2 = n) := by
        show _ = _
        rw [hb1.out, hb2.out, occ_encs HNE.out GX.out GY.out, hfin.out]
      clear o4 o5 l4 l5 la rxa rya
      go_wp2
      go_loopw [11, 56] (fun v i wr => ∃ (k m : Nat), k ≤ b2.length ∧ m ≤ k ∧ i = .int .i64 k ∧ v = .int .i64 m ∧ Below w5.heap.size w5 wr ∧ Hid (m + occ b1 (b2.drop k) = occ b1 b2)) (fun _ i _ => b2.length - (intOf i).toNat)
      case atStart => exact ⟨0, 0, Nat.zero_le _, Nat.zero_le _, rfl, rfl, Below.refl _ _, by show _ = _; simp⟩
      case round =>
        obtain ⟨k, m, hk, hnk, rfl, rfl, hbel, hag⟩ := hrel
        by_cases hlt : k < b2.length
        · have h1 : (k : Int) < (b2.length : Int) := by omega
          have hst := occ_drop b1 hlt
          have HS := Lib.hid hst
          clear hst
          by_cases hfit : k + b1.length ≤ b2.length
          · have h2 : (k : Int) + (b1.length : Int) ≤ (b2.length : Int) := by omega
            have hcut := fun W => run_cut (P := Try.prog) (w := W) 26 5 Try.underlying26 ju8 JU8.out.1 JU8.out.2 A5 b2.length c5 k (k + b1.length) (by omega) (by omega)
            simp only [Int.natCast_add] at hcut
            have hpart := part_eq (p := b1) (l := b2) (k := k) hfit
            have HPt := Lib.hid hpart
            clear hpart
            by_cases hp : b1 <+: b2.drop k
            · have HPP := Lib.hid hp
              clear hp
              go_wp2_with (go_at_call 19; refine (sameBytes_n (((rc.next hbel).drop c5 k (by omega)).take b1.length) (rb.next hbel) (part_len hfit) rfl (by omega)).mono ?_; rw [HPt.out, decide_eq_true HPP.out]; rintro e w9 ⟨rfl, n9, rfl⟩)
              go_roundw
              case rel =>
                refine ⟨k + 1, m + 1, by omega, by omega, by go_num, by go_num, bdrewN hbel _, ?_⟩
                show _ = _
                rw [← hag.out, HS.out, if_pos HPP.out]; omega
              case measure => simp [intOf]; omega
            · have HPP := Lib.hid hp
              clear hp
              go_wp2_with (go_at_call 19; refine (sameBytes_n (((rc.next hbel).drop c5 k (by omega)).take b1.length) (rb.next hbel) (part_len hfit) rfl (by omega)).mono ?_; rw [HPt.out, decide_eq_false HPP.out]; rintro e w9 ⟨rfl, n9, rfl⟩)
              go_roundw
              case rel =>
                refine ⟨k + 1, m, by omega, by omega, by go_num, rfl, bdrewN hbel _, ?_⟩
                show _ = _
                rw [← hag.out, HS.out, if_neg HPP.out]; omega
              case measure => simp [intOf]; omega
          · have h2 : ¬ (k : Int) + (b1.length : Int) ≤ (b2.length : Int) := by omega
            have h3 : decide ((k : Int) + (b1.length : Int) ≤ (b2.length : Int)) = false := by simpa using h2
            have hp := part_no (p := b1) (l := b2) hfit (by omega)
            have HPP := Lib.hid hp
            clear hp
            go_wp2
            go_roundw
            case rel =>
              refine ⟨k + 1, m, by omega, by omega, by go_num, rfl, hbel, ?_⟩
              show _ = _
              rw [← hag.out, HS.out, if_neg HPP.out]; omega
            case measure => simp [intOf]; omega
        · have h1 : ¬ (k : Int) < (b2.length : Int) := by omega
          have hkk : k = b2.length := by omega
          subst hkk
          have hfin2 : Hid (m = occ b1 b2) := by
            show m = _
            rw [← hag.out, occ_drop0]; rfl
          clear hag hlt hk
          have lc := bnext lb hbel
          have rxc := rxb.next hbel
          have ryc := ryb.next hbel
          have hmn : m = n := by rw [hfin2.out, EB.out]
          subst hmn
          clear hbel rxb ryb lb rb rc EB hfin2
          go_wp2_with fail
          refine (encodeUnits_any rxc ix (by omega)).mono ?_
          rintro e w7 ⟨A7, c7, u1, hu1, rfl, o7, l7⟩
          go_wp2_with fail
          refine (encodeUnits_any (ryc.next l7) iy (by omega)).mono ?_
          rintro e w8 ⟨A8, c8, u2, hu2, rfl, o8, l8⟩
          have z7 : u1.length ≤ 1000000000000000 := by rw [hu1.out]; have := (encs16_len x).2; omega
          have z8 : u2.length ≤ 1000000000000000 := by rw [hu2.out]; have := (encs16_len y).2; omega
          have k8 := o8.len.2
          have ru := (o7.next l8).rd
          have rv := o8.rd
          have ld := bnext lc (bnext l7 l8)
          have EU : Hid (occ u1 u2 = m) := by
            show _ = _
            rw [hu1.out, hu2.out, occ_encs16 HNE.out GX.out GY.out, hfin.out]
          clear o7 o8 l7 l8 lc rxc ryc
          go_wp2
          go_loopw [15, 86] (fun v i wr => ∃ (k t : Nat), k ≤ u2.length ∧ t ≤ k ∧ i = .int .i64 k ∧ v = .int .i64 t ∧ Below w8.heap.size w8 wr ∧ Hid (t + occ u1 (u2.drop k) = occ u1 u2)) (fun _ i _ => u2.length - (intOf i).toNat)
          case atStart => exact ⟨0, 0, Nat.zero_le _, Nat.zero_le _, rfl, rfl, Below.refl _ _, by show _ = _; simp⟩
          case round =>
            obtain ⟨k, t, hk, hnk, rfl, rfl, hbel, hag⟩ := hrel
            by_cases hlt : k < u2.length
            · have h1 : (k : Int) < (u2.length : Int) := by omega
              have hst := occ_drop u1 hlt
              have HS := Lib.hid hst
              clear hst
              by_cases hfit : k + u1.length ≤ u2.length
              · have h2 : (k : Int) + (u1.length : Int) ≤ (u2.length : Int) := by omega
                have hcut := fun W => run_cut (P := Try.prog) (w := W) 29 33 Try.underlying29 ju16 JU16.out.1 JU16.out.2 A8 u2.length c8 k (k + u1.length) (by omega) (by omega)
                simp only [Int.natCast_add] at hcut
                have hpart := part_eq (p := u1) (l := u2) (k := k) hfit
                have HPt := Lib.hid hpart
                clear hpart
                by_cases hp : u1 <+: u2.drop k
                · have HPP := Lib.hid hp
                  clear hp
                  go_wp2_with (go_at_call 37; refine (sameUnits_n (((rv.next hbel).drop c8 k (by omega)).take u1.length) (ru.next hbel) (part_len hfit) rfl (by omega)).mono ?_; rw [HPt.out, decide_eq_true HPP.out]; rintro e w9 ⟨rfl, n9, rfl⟩)
                  go_roundw
                  case rel =>
                    refine ⟨k + 1, t + 1, by omega, by omega, by go_num, by go_num, bdrewN hbel _, ?_⟩
                    show _ = _
                    rw [← hag.out, HS.out, if_pos HPP.out]; omega
                  case measure => simp [intOf]; omega
                · have HPP := Lib.hid hp
                  clear hp
                  go_wp2_with (go_at_call 37; refine (sameUnits_n (((rv.next hbel).drop c8 k (by omega)).take u1.length) (ru.next hbel) (part_len hfit) rfl (by omega)).mono ?_; rw [HPt.out, decide_eq_false HPP.out]; rintro e w9 ⟨rfl, n9, rfl⟩)
                  go_roundw
                  case rel =>
                    refine ⟨k + 1, t, by omega, by omega, by go_num, rfl, bdrewN hbel _, ?_⟩
                    show _ = _
                    rw [← hag.out, HS.out, if_neg HPP.out]; omega
                  case measure => simp [intOf]; omega
              · have h2 : ¬ (k : Int) + (u1.length : Int) ≤ (u2.length : Int) := by omega
                have h3 : decide ((k : Int) + (u1.length : Int) ≤ (u2.length : Int)) = false := by simpa using h2
                have hp := part_no (p := u1) (l := u2) hfit (by omega)
                have HPP := Lib.hid hp
                clear hp
                go_wp2
                go_roundw
                case rel =>
                  refine ⟨k + 1, t, by omega, by omega, by go_num, rfl, hbel, ?_⟩
                  show _ = _
                  rw [← hag.out, HS.out, if_neg HPP.out]; omega
                case measure => simp [intOf]; omega
            · have h1 : ¬ (k : Int) < (u2.length : Int) := by omega
              have hkk : k = u2.length := by omega
              subst hkk
              have hfin3 : Hid (t = occ u1 u2) := by
                show t = _
                rw [← hag.out, occ_drop0]; rfl
              clear hag hlt hk
              have htm : t = m := by rw [hfin3.out, EU.out]
              subst htm
              have tt : ((t : Int) == (t : Int)) = true := by simp
              go_wp2
              go_ret
              exact ⟨rfl, bnext ld hbel⟩
end Go.Proofs.Ytmpaccpkanlpiaa
