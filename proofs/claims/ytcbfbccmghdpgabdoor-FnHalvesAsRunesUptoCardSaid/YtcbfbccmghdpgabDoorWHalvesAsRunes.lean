/- FnHalvesAsRunes: the walk. -/
import Derived.Test.YtcbfbccmghdpgabDoorDoor
import Derived.Test.YtcbfbccmghdpgabDoorAppU
set_option linter.unusedVariables false
namespace Go.Proofs.YtcbfbccmghdpgabDoor
open Go.RowKit P

theorem fix_lone {u : Int} (h : 0 ≤ u ∧ u < 65536) : fix u = loneR u := by
  unfold fix loneR
  by_cases hs : isH u = true ∨ isL u = true
  · rw [if_pos hs, if_neg]
    rw [isH_iff, isL_iff] at hs
    rw [good_iff]; omega
  · rw [if_neg hs, if_pos]
    rw [isH_iff, isL_iff] at hs
    rw [good_iff]; omega
theorem map_fix_lone {us : List Int} (hw : Units us) : us.map fix = us.map loneR := List.map_congr_left fun x hx => fix_lone (hw x hx)
theorem dec16_plain : ∀ (us : List Int), (∀ x ∈ us, (isH x || isL x) = false) → dec16 us = us
  | [], _ => rfl
  | u :: t, h => by
    have hu := h u (by simp)
    have h1 : isH u = false := by cases e : isH u <;> simp_all
    have h2 : isL u = false := by cases e : isL u <;> simp_all
    rw [dec16_cons u t (fun v _ _ => by simp [isPair, h1]), dec16_plain t (fun x hx => h x (by simp [hx]))]
    unfold loneR; rw [if_neg (by simp [h1, h2])]
theorem map_lone_plain {us : List Int} (h : ∀ x ∈ us, (isH x || isL x) = false) : us.map loneR = us := by
  conv => rhs; rw [← List.map_id us]
  refine List.map_congr_left fun x hx => ?_
  have := h x hx
  unfold loneR; rw [if_neg (by cases e1 : isH x <;> cases e2 : isL x <;> simp_all)]; rfl

set_option maxRecDepth 100000 in
set_option maxHeartbeats 2000000 in
theorem halvesAsRunes_walk {A : Option Addr} {us : List Int} {c : Nat} {w : World} (hu : Rd w .u16 A us) (hw : Units us) (hT : Tabs w) (hl : us.length ≤ 1048576) :
    Calls Tryd.prog 10 #[.slice A us.length c] w fun e w' => e = .returned (.bool true) ∧ Below w.heap.size w w' := by
  go_enter Tryd.func10, Tryd.ntmps10
  go_wp2
  go_loopw [3, 4, 12] (fun v3 v4 v12 wr => ∃ (k : Nat) (A3 : Option Addr) (c3 : Nat) (ls : List Int) (A4 : Option Addr) (c4 : Nat) (ds : List Int), k ≤ us.length ∧ ls.length ≤ k ∧ ds.length ≤ k ∧ v12 = .int .i64 k ∧ Hid (ls = us.take k) ∧ Hid (ds = (us.take k).map loneR) ∧
      v3 = .slice A3 ls.length c3 ∧ v4 = .slice A4 ds.length c4 ∧ Own wr w.heap.size 21 .i32 (.slice A3 ls.length c3) ls ∧ Own wr w.heap.size 21 .i32 (.slice A4 ds.length c4) ds ∧ Sep (.slice A4 ds.length c4) (.slice A3 ls.length c3) ∧ Below w.heap.size w wr)
    (fun _ _ v12 _ => us.length - (intOf v12).toNat)
  case atStart => exact ⟨0, none, 0, [], none, 0, [], Nat.zero_le _, Nat.zero_le _, Nat.zero_le _, rfl, rfl, rfl, rfl, rfl, Own.nil _ _ _ _, Own.nil _ _ _ _, (fun g h => by cases h), Below.refl _ _⟩
  case round =>
    obtain ⟨k, A3, c3, ls, A4, c4, ds, hk, z3, z4, rfl, hL, hD, rfl, rfl, o3, o4, sp, hbel⟩ := hrel
    have hsz := hbel.size
    by_cases hlt : k < us.length
    · obtain ⟨b1, off1, x, hA1, hb1, hx, hc1⟩ := (hu.next hbel).at_ hlt
      subst hA1
      have hx16 := hw x (List.mem_of_getElem? hx)
      have hx0 := hx16.1
      have hx1 := hx16.2
      have HX := Lib.hid hx
      have h1 : (k : Int) < (us.length : Int) := by omega
      clear hx hx16
      have hq1 : (ls.length + 1) * 4 ≤ 140737488355328 := by omega
      have hq2 : ls.length + 1 ≤ maxLen := by unfold maxLen; omega
      have hq3 : (ds.length + 1) * 4 ≤ 140737488355328 := by omega
      have hq4 : ds.length + 1 ≤ maxLen := by unfold maxLen; omega
      go_wp2_with (at_builtin; refine wpList_app1 wr rfl _ _ 25 rfl w.heap.size 21 .i32 4 Tryd.underlying25 info_i32 x o3 rfl rfl hq1 hq2 hsz ?_; intro A5 c5 ls1 w1 he1 o31 g1)
      have b1 := g1.below_new o3 hsz
      have hs1 := Nat.le_trans hsz b1.size
      have o41 := (g1.own (o4.v.alloc (.cells #[.int .i32 x] 21)) sp).ints
      have sp1 := g1.sep (o4.v.alloc (.cells #[.int .i32 x] 21)) sp
      clear o3 o4 sp g1
      rcases (by cases e1 : isH x <;> cases e2 : isL x <;> simp : (isH x = true) ∨ (isH x = false ∧ isL x = true) ∨ (isH x = false ∧ isL x = false)) with p1 | ⟨p1, p2⟩ | ⟨p1, p2⟩
      · have hlo : Hid (loneR x = 65533) := by show _ = _; unfold loneR; rw [if_pos (.inl p1)]
        have p2 : isL x = false := by rw [isH_iff] at p1; rw [isL_false]; omega
        go_wp2_with (first
          | (go_at_call 15; refine (isFirst_any _ _).mono ?_; rw [p1]; rintro e w' ⟨rfl, rfl⟩)
          | (go_at_call 16; refine (isSecond_any _ _).mono ?_; rw [p2]; rintro e w' ⟨rfl, rfl⟩)
          | (at_builtin; refine wpList_app1 w1 rfl _ _ 25 rfl w.heap.size 21 .i32 4 Tryd.underlying25 info_i32 65533 o41 rfl rfl hq3 hq4 hs1 ?_; intro A6 c6 ds1 w2 he2 o42 g2))
        have b2 := g2.below_new o41 hs1
        have o32 := (g2.own (o31.v.alloc (.cells #[.int .i32 65533] 21)) sp1.symm).ints
        have sp2 := (g2.sep (o31.v.alloc (.cells #[.int .i32 65533] 21)) sp1.symm).symm
        have hfin := (hbel.trans b1).trans b2
        have y3 : ls1.length ≤ k + 1 := by rw [he1.out, List.length_append]; simp; omega
        have y4 : ds1.length ≤ k + 1 := by rw [he2.out, List.length_append]; simp; omega
        clear o31 o41 g2 b1 b2 sp1
        go_roundw
        case rel =>
          refine ⟨k + 1, A5, c5, ls1, A6, c6, ds1, by omega, y3, y4, by go_num, ?_, ?_, rfl, rfl, o32, o42, sp2, hfin⟩
          · show _ = _; rw [he1.out, hL.out, take_snoc HX.out]
          · show _ = _; rw [he2.out, hD.out, take_snoc HX.out, List.map_append, List.map_singleton, hlo.out]
        case measure => simp [intOf]; omega
      · have hlo : Hid (loneR x = 65533) := by show _ = _; unfold loneR; rw [if_pos (.inr p2)]
        go_wp2_with (first
          | (go_at_call 15; refine (isFirst_any _ _).mono ?_; rw [p1]; rintro e w' ⟨rfl, rfl⟩)
          | (go_at_call 16; refine (isSecond_any _ _).mono ?_; rw [p2]; rintro e w' ⟨rfl, rfl⟩)
          | (at_builtin; refine wpList_app1 w1 rfl _ _ 25 rfl w.heap.size 21 .i32 4 Tryd.underlying25 info_i32 65533 o41 rfl rfl hq3 hq4 hs1 ?_; intro A6 c6 ds1 w2 he2 o42 g2))
        have b2 := g2.below_new o41 hs1
        have o32 := (g2.own (o31.v.alloc (.cells #[.int .i32 65533] 21)) sp1.symm).ints
        have sp2 := (g2.sep (o31.v.alloc (.cells #[.int .i32 65533] 21)) sp1.symm).symm
        have hfin := (hbel.trans b1).trans b2
        have y3 : ls1.length ≤ k + 1 := by rw [he1.out, List.length_append]; simp; omega
        have y4 : ds1.length ≤ k + 1 := by rw [he2.out, List.length_append]; simp; omega
        clear o31 o41 g2 b1 b2 sp1
        go_roundw
        case rel =>
          refine ⟨k + 1, A5, c5, ls1, A6, c6, ds1, by omega, y3, y4, by go_num, ?_, ?_, rfl, rfl, o32, o42, sp2, hfin⟩
          · show _ = _; rw [he1.out, hL.out, take_snoc HX.out]
          · show _ = _; rw [he2.out, hD.out, take_snoc HX.out, List.map_append, List.map_singleton, hlo.out]
        case measure => simp [intOf]; omega
      · have hlo : Hid (loneR x = x) := by show _ = _; unfold loneR; rw [if_neg (by simp [p1, p2])]
        go_wp2_with (first
          | (go_at_call 15; refine (isFirst_any _ _).mono ?_; rw [p1]; rintro e w' ⟨rfl, rfl⟩)
          | (go_at_call 16; refine (isSecond_any _ _).mono ?_; rw [p2]; rintro e w' ⟨rfl, rfl⟩)
          | (at_builtin; refine wpList_app1 w1 rfl _ _ 25 rfl w.heap.size 21 .i32 4 Tryd.underlying25 info_i32 x o41 rfl rfl hq3 hq4 hs1 ?_; intro A6 c6 ds1 w2 he2 o42 g2))
        have b2 := g2.below_new o41 hs1
        have o32 := (g2.own (o31.v.alloc (.cells #[.int .i32 x] 21)) sp1.symm).ints
        have sp2 := (g2.sep (o31.v.alloc (.cells #[.int .i32 x] 21)) sp1.symm).symm
        have hfin := (hbel.trans b1).trans b2
        have y3 : ls1.length ≤ k + 1 := by rw [he1.out, List.length_append]; simp; omega
        have y4 : ds1.length ≤ k + 1 := by rw [he2.out, List.length_append]; simp; omega
        clear o31 o41 g2 b1 b2 sp1
        go_roundw
        case rel =>
          refine ⟨k + 1, A5, c5, ls1, A6, c6, ds1, by omega, y3, y4, by go_num, ?_, ?_, rfl, rfl, o32, o42, sp2, hfin⟩
          · show _ = _; rw [he1.out, hL.out, take_snoc HX.out]
          · show _ = _; rw [he2.out, hD.out, take_snoc HX.out, List.map_append, List.map_singleton, hlo.out]
        case measure => simp [intOf]; omega
    · have h1 : ¬ (k : Int) < (us.length : Int) := by omega
      have HL : Hid (ls = us) := by show _ = _; rw [hL.out, List.take_of_length_le (by omega)]
      have HD : Hid (ds = us.map loneR) := by show _ = _; rw [hD.out, List.take_of_length_le (by omega)]
      have il : I32 ls := fun x hx => by rw [HL.out] at hx; have := hw x hx; omega
      have ru := hu.next hbel
      have r3 := o3.rd
      have r4 := o4.rd
      have hT1 := hT.next hbel
      have zl : ls.length ≤ 1048576 := by omega
      clear hL hD o3 o4 sp hlt hu hT
      go_wp2_with fail
      refine (appendNil_any r3 il (by omega)).mono ?_
      rintro e w1 ⟨A5, c5, b, hb, rfl, o5, l5⟩
      have zb : b.length ≤ 4194304 := by rw [hb.out]; have := (encs_len ls).2; omega
      have yb : Bytes b := by rw [hb.out]; exact encs_bytes ls
      go_wp2_with fail
      refine (runesOf_any o5.rd rfl yb (hT1.next l5) o5.len.2 (by omega)).mono ?_
      rintro e w2 ⟨A6, c6, rs, hrs, rfl, o6, l6⟩
      have HR : Hid (rs = us.map loneR) := by show _ = _; rw [hrs.out, hb.out, runes8_fix, HL.out, map_fix_lone hw]
      have zr : rs.length ≤ 1048576 := by rw [HR.out, List.length_map]; exact hl
      have HQ1 : Hid (decide (rs = ds) = true) := by show _ = _; rw [HR.out, HD.out]; simp
      have l56 := bnext l5 l6
      go_wp2_with fail
      refine (sameRunes_any o6.rd (r4.next l56) (by omega)).mono ?_
      rw [HQ1.out]
      rintro e w3 ⟨rfl, n3, rfl⟩
      have lw3 := bdrewN (bnext hbel l56) n3
      have l13 := bdrewN l56 n3
      have r6 := o6.rd.drewN n3
      have r33 := r3.next l13
      have r43 := r4.next l13
      have ru3 := ru.next l13
      clear o5 o6 l5 l6 l56 HQ1 hrs hb yb r3 r4 ru l13 hbel
      generalize w2.drewN n3 = w3 at *
      go_wp2_with fail
      refine (appendUnits_any (us := []) (A := none) (c := 0) (Rd.nil _ _ _) r33 il (by simp; omega)).mono ?_
      rintro e w4 ⟨A7, c7, vs, hvs, rfl, o7, l7⟩
      have zv : vs.length ≤ 2097152 := by rw [hvs.out]; have := (encs16_len ls).2; simp; omega
      have wv : Units vs := by rw [hvs.out]; exact encs16_units ls
      go_wp2_with fail
      refine (decodeUnits_any o7.rd wv (by omega) (by have := dec16_le vs; omega)).mono ?_
      rintro e w5 ⟨A8, c8, zs, hzs, rfl, o8, l8⟩
      have HZ : Hid (zs = us.map loneR) := by show _ = _; rw [hzs.out, hvs.out, List.nil_append, dec16_encs16', HL.out, map_fix_lone hw]
      have zz : zs.length ≤ 1048576 := by rw [HZ.out, List.length_map]; exact hl
      have HQ2 : Hid (decide (zs = ds) = true) := by show _ = _; rw [HZ.out, HD.out]; simp
      have l78 := bnext l7 l8
      go_wp2_with fail
      refine (sameRunes_any o8.rd (r43.next l78) (by omega)).mono ?_
      rw [HQ2.out]
      rintro e w6 ⟨rfl, n6, rfl⟩
      have l16 := bdrewN l78 n6
      have lw6 := bnext lw3 l16
      have r66 := r6.next l16
      have ru6 := ru3.next l16
      clear o7 o8 l7 l8 l78 HQ2 hzs hvs wv r33 r43 r6 ru3 l16 lw3
      generalize w5.drewN n6 = w6 at *
      go_wp2_with fail
      refine (surrogatesOf_any ru6 hw (by omega)).mono ?_
      rintro e w7 ⟨A9, c9, sb, hsb, rfl, o9, l9⟩
      have zsb : Hid (sb.length = us.length) := by show _ = _; rw [hsb.out, List.length_map]
      have zsb2 : sb.length ≤ 1048576 := by rw [zsb.out]; exact hl
      have r9 := o9.rd
      have ru7 := ru6.next l9
      have r67 := r66.next l9
      have lw7 := bnext lw6 l9
      clear o9 l9 ru6 r66 lw6
      go_wp2
      go_loopw [54] (fun v54 wr => ∃ j : Nat, j ≤ sb.length ∧ v54 = .int .i64 j ∧ Hid (∀ i x, i < j → us[i]? = some x → (isH x || isL x) = false) ∧ Below w7.heap.size w7 wr) (fun v54 _ => sb.length - (intOf v54).toNat)
      case atStart => exact ⟨0, Nat.zero_le _, rfl, (fun i x hi => absurd hi (by omega)), Below.refl _ _⟩
      case round =>
        obtain ⟨j, hj, rfl, hN, hbel⟩ := hrel
        by_cases hlt : j < sb.length
        · obtain ⟨b1, off1, q, hA1, hb1, hq, hc1⟩ := (r9.next hbel).at_ hlt
          subst hA1
          have h2 : (j : Int) < (sb.length : Int) := by omega
          cases q
          · have HN : Hid (∀ i x, i < j + 1 → us[i]? = some x → (isH x || isL x) = false) := fun i x hi hx => by
              by_cases e : i < j
              · exact hN.out i x e hx
              · obtain rfl : i = j := by omega
                rw [hsb.out, List.getElem?_map, hx] at hq
                simpa using hq
            clear hq
            go_wp2
            go_roundw
            case rel => exact ⟨j + 1, by omega, by go_num, HN, hbel⟩
            case measure => simp [intOf]; omega
          · clear hq
            go_wp2
            go_ret
            exact ⟨rfl, bnext lw7 hbel⟩
        · have h2 : ¬ (j : Int) < (sb.length : Int) := by omega
          have hall : ∀ x ∈ us, (isH x || isL x) = false := fun x hx => by
            obtain ⟨i, hi, rfl⟩ := List.mem_iff_getElem.1 hx
            exact hN.out i _ (by have := zsb.out; omega) (List.getElem?_eq_getElem hi)
          have HA := Lib.hid hall
          clear hall hlt
          go_wp2_with fail
          refine (decodeUnits_any (ru7.next hbel) hw (by omega) (by have := dec16_le us; omega)).mono ?_
          rintro e w8 ⟨A10, c10, d, hd, rfl, o10, l10⟩
          have zd : d.length ≤ 1048576 := by rw [hd.out]; have := dec16_le us; omega
          have HQ3 : Hid (decide (d = rs) = true) := by show _ = _; rw [hd.out, HR.out, dec16_plain us HA.out, map_lone_plain HA.out]; simp
          go_wp2_with fail
          refine (sameRunes_any o10.rd (r67.next (bnext hbel l10)) (by omega)).mono ?_
          rw [HQ3.out]
          rintro e w9 ⟨rfl, n9, rfl⟩
          go_wp2
          go_ret
          exact ⟨rfl, bdrewN (bnext lw7 (bnext hbel l10)) n9⟩
end Go.Proofs.YtcbfbccmghdpgabDoor
