/- FnRoadsScript: the walk. -/
import Derived.Test.YtcbfbccmghdpgaaDoorDoor
import Derived.Test.YtcbfbccmghdpgaaDoorAppU
import Derived.Test.YtcbfbccmghdpgaaDoorAppB
set_option linter.unusedVariables false
namespace Go.Proofs.YtcbfbccmghdpgaaDoor
open Go.RowKit P

theorem fix_i32 {xs ys : List Int} (h : ys = xs.map fix) : I32 ys := fun r hr => by
  rw [h] at hr
  obtain ⟨s, _, rfl⟩ := List.mem_map.1 hr
  have := good_iff.1 (fix_good s); omega
theorem map_fix_fix (xs : List Int) : (xs.map fix).map fix = xs.map fix := by
  rw [List.map_map]; exact List.map_congr_left fun x _ => fix_fix x

set_option maxRecDepth 100000 in
set_option maxHeartbeats 2000000 in
theorem roadsScript_walk {A B : Option Addr} {xs : List Int} {bs : List Bool} {c d : Nat} {w : World} (hx : Rd w .i32 A xs) (hi : I32 xs) (hl : xs.length ≤ 1048576) (hB : RdB w B bs) (hlb : bs.length ≤ 1048576) (hT : Tabs w) :
    Calls Tryd.prog 3 #[.slice A xs.length c, .slice B bs.length d] w fun e w' => e = .returned (.bool true) ∧ Below w.heap.size w w' := by
  go_enter Tryd.func3, Tryd.ntmps3
  go_wp2_with fail
  refine (encodeUnits_any hx hi (by omega)).mono ?_
  rintro e w1 ⟨A1, c1, us, hus, rfl, o1, l1⟩
  have zu : us.length ≤ 2097152 := by rw [hus.out]; have := (encs16_len xs).2; omega
  have wu : Units us := by rw [hus.out]; exact encs16_units xs
  go_wp2_with fail
  refine (decodeUnits_any o1.rd wu (by omega) (by have := dec16_le us; omega)).mono ?_
  rintro e w2 ⟨A2, c2, due, hdue, rfl, o2, l2⟩
  have HD : Hid (due = xs.map fix) := by show _ = _; rw [hdue.out, hus.out, dec16_encs16']
  have zd : due.length ≤ 1048576 := by rw [HD.out, List.length_map]; exact hl
  have t1 : ((due.length : Int) != (xs.length : Int)) = false := by simp only [bne_eq_false_iff_eq]; rw [HD.out, List.length_map]
  have l02 := bnext l1 l2
  go_wp2_with fail
  refine (appendNil_any (hx.next l02) hi (by omega)).mono ?_
  rintro e w3 ⟨A3, c3, b, hb, rfl, o3, l3⟩
  have zb : b.length ≤ 4194304 := by rw [hb.out]; have := (encs_len xs).2; omega
  have by_ : Bytes b := by rw [hb.out]; exact encs_bytes xs
  go_wp2_with fail
  refine (runesOf_any o3.rd rfl by_ (hT.next (bnext l02 l3)) o3.len.2 (by omega)).mono ?_
  rintro e w4 ⟨A4, c4, rs, hrs, rfl, o4, l4⟩
  have HE : Hid (decide (due = rs) = true) := by show _ = _; rw [HD.out, hrs.out, hb.out, runes8_fix]; simp
  go_wp2_with fail
  refine (sameRunes_any (o2.next (bnext l3 l4)).rd o4.rd (by omega)).mono ?_
  rw [HE.out]
  rintro e w5 ⟨rfl, n5, rfl⟩
  have l04 := bdrewN (bnext l02 (bnext l3 l4)) n5
  have rd := ((o2.next (bnext l3 l4)).rd).drewN n5
  have hT5 := hT.next l04
  have rx := hx.next l04
  have rB := hB.next l04
  clear o1 o2 o3 o4 l1 l2 l3 l4 l02 hx hB hT hus hdue hb hrs by_ wu HE
  generalize w4.drewN n5 = w5 at *
  go_wp2
  go_loopw [6, 28] (fun v6 v28 wr => ∃ (k : Nat) (A : Option Addr) (c : Nat) (ys : List Int), k ≤ bs.length ∧ v28 = .int .i64 k ∧ v6 = .slice A ys.length c ∧ Rd wr .i32 A ys ∧ I32 ys ∧ ys.length ≤ 1048576 ∧ Hid (ys.map fix = due) ∧ Below w5.heap.size w5 wr)
    (fun _ v28 _ => bs.length - (intOf v28).toNat)
  case atStart => exact ⟨0, A, c, xs, Nat.zero_le _, rfl, rfl, rx, hi, hl, HD.out.symm, Below.refl _ _⟩
  case round =>
    obtain ⟨k, A6, c6, ys, hk, rfl, rfl, ry, iy, zy, hy, hbel⟩ := hrel
    by_cases hlt : k < bs.length
    · obtain ⟨b1, off1, q, hA1, hb1, hq, hc1⟩ := (rB.next hbel).at_ hlt
      subst hA1
      have h1 : (k : Int) < (bs.length : Int) := by omega
      clear hq
      cases q
      · go_wp2_with fail
        refine (appendUnits_any (us := []) (A := none) (c := 0) (Rd.nil _ _ _) ry iy (by simp; omega)).mono ?_
        rintro e w6 ⟨A7, c7, vs, hvs, rfl, o7, l7⟩
        have zv : vs.length ≤ 2097152 := by rw [hvs.out]; have := (encs16_len ys).2; simp; omega
        have wv : Units vs := by rw [hvs.out]; exact encs16_units ys
        go_wp2_with fail
        refine (decodeUnits_any o7.rd wv (by omega) (by have := dec16_le vs; omega)).mono ?_
        rintro e w7 ⟨A8, c8, zs, hzs, rfl, o8, l8⟩
        have HZ : Hid (zs = ys.map fix) := by show _ = _; rw [hzs.out, hvs.out, List.nil_append, dec16_encs16']
        have zz : zs.length ≤ 1048576 := by rw [HZ.out, List.length_map]; exact zy
        have iz := fix_i32 HZ.out
        have HQ : Hid (decide (zs = due) = true) := by show _ = _; rw [HZ.out, hy.out]; simp
        have HY : Hid (zs.map fix = due) := by show _ = _; rw [HZ.out, map_fix_fix, hy.out]
        have l57 := bnext hbel (bnext l7 l8)
        go_wp2_with fail
        refine (sameRunes_any o8.rd (rd.next l57) (by omega)).mono ?_
        rw [HQ.out]
        rintro e w8 ⟨rfl, n8, rfl⟩
        have rz := o8.rd.drewN n8
        have l58 := bdrewN l57 n8
        clear o7 o8 l7 l8 l57 hzs hvs HQ wv hbel ry
        go_wp2
        go_roundw
        case rel => exact ⟨k + 1, A8, c8, zs, by omega, by go_num, rfl, rz, iz, zz, HY, l58⟩
        case measure => simp [intOf]; omega
      · go_wp2_with fail
        refine (appendNil_any ry iy (by omega)).mono ?_
        rintro e w6 ⟨A7, c7, vs, hvs, rfl, o7, l7⟩
        have zv : vs.length ≤ 4194304 := by rw [hvs.out]; have := (encs_len ys).2; omega
        have wv : Bytes vs := by rw [hvs.out]; exact encs_bytes ys
        go_wp2_with fail
        refine (runesOf_any o7.rd rfl wv (hT5.next (bnext hbel l7)) o7.len.2 (by omega)).mono ?_
        rintro e w7 ⟨A8, c8, zs, hzs, rfl, o8, l8⟩
        have HZ : Hid (zs = ys.map fix) := by show _ = _; rw [hzs.out, hvs.out, runes8_fix]
        have zz : zs.length ≤ 1048576 := by rw [HZ.out, List.length_map]; exact zy
        have iz := fix_i32 HZ.out
        have HQ : Hid (decide (zs = due) = true) := by show _ = _; rw [HZ.out, hy.out]; simp
        have HY : Hid (zs.map fix = due) := by show _ = _; rw [HZ.out, map_fix_fix, hy.out]
        have l57 := bnext hbel (bnext l7 l8)
        go_wp2_with fail
        refine (sameRunes_any o8.rd (rd.next l57) (by omega)).mono ?_
        rw [HQ.out]
        rintro e w8 ⟨rfl, n8, rfl⟩
        have rz := o8.rd.drewN n8
        have l58 := bdrewN l57 n8
        clear o7 o8 l7 l8 l57 hzs hvs HQ wv hbel ry
        go_wp2
        go_roundw
        case rel => exact ⟨k + 1, A8, c8, zs, by omega, by go_num, rfl, rz, iz, zz, HY, l58⟩
        case measure => simp [intOf]; omega
    · have h1 : ¬ (k : Int) < (bs.length : Int) := by omega
      go_wp2
      go_ret
      exact ⟨rfl, bnext l04 hbel⟩
end Go.Proofs.YtcbfbccmghdpgaaDoor
