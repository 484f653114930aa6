/- FnByteCuts: the walk. -/
import Derived.Test.YtcbfbccmghdpgabDoorPlainByte
import Derived.Test.YtcbfbccmghdpgabDoorStep2
import Derived.Test.YtcbfbccmghdpgabDoorQuiet
set_option linter.unusedVariables false
namespace Go.Proofs.YtcbfbccmghdpgabDoor
open Go.RowKit P

theorem and_ne (x : Int) (h0 : 0 ≤ x) (h1 : x < 256) (q : Bool) (h : isC x = q) : (bits .and .u8 x 192 != 128) = !q ∧ (bits .and .u8 x 192 == 128) = q := by
  have e := and_u8 x h0 h1
  rw [h] at e
  refine ⟨e, ?_⟩
  rw [bne] at e
  cases h2 : (bits .and .u8 x 192 == 128) <;> rw [h2] at e <;> cases q <;> simp_all

set_option maxRecDepth 100000 in
set_option maxHeartbeats 4000000 in
theorem byteCuts_walk {A : Option Addr} {xs : List Int} {c : Nat} {kk : Int} {w : World} (hx : Rd w .i32 A xs) (hi : I32 xs) (hT : Tabs w) (hl : xs.length ≤ 1048576) :
    Calls Tryd.prog 6 #[.slice A xs.length c, .int .i64 kk] w fun e w' => e = .returned (.bool true) ∧ Below w.heap.size w w' := by
  obtain ⟨j8, hj8, _, hs8, _⟩ := info_parts info_u8
  have J8 := Lib.hid (And.intro hj8 hs8)
  clear hj8 hs8
  go_enter Tryd.func6, Tryd.ntmps6
  go_wp2_with fail
  refine (goods_any hx (by omega)).mono ?_
  rintro e w1 ⟨A1, c1, g, hg, rfl, o1, l1⟩
  have zg : g.length ≤ 1048576 := by rw [hg.out]; have := filter_le xs; omega
  have ig := hi.good hg.out
  have gg : ∀ r ∈ g, good r = true := by rw [hg.out]; exact good_filter xs
  have GG := Lib.hid gg
  clear gg hx
  go_wp2_with fail
  refine (appendNil_any o1.rd ig (by omega)).mono ?_
  rintro e w2 ⟨A2, c2, b, hb, rfl, o2, l2⟩
  have zb : b.length ≤ 4194304 := by rw [hb.out]; have := (encs_len g).2; omega
  have zb2 : g.length ≤ b.length := by rw [hb.out]; exact (encs_len g).1
  have by_ : Bytes b := by rw [hb.out]; exact encs_bytes g
  have BY := Lib.hid by_
  have HB : Hid (b = encs g) := hb
  clear by_
  go_wp2_with fail
  refine (placeIn_any kk (b.length : Int) (by omega) (by omega) _).mono ?_
  rintro e w0 ⟨at_, hat, rfl, rfl⟩
  have hat' : at_ ≤ b.length := by omega
  go_wp2_with fail
  refine (encodeUnits_any (o1.next l2).rd ig (by omega)).mono ?_
  rintro e w3 ⟨A3, c3, us, hus, rfl, o3, l3⟩
  have HU : Hid (us = encs16 g) := hus
  have zu : g.length ≤ us.length := by rw [hus.out]; exact (encs16_len g).1
  have zu2 : us.length ≤ 2097152 := by rw [hus.out]; have := (encs16_len g).2; omega
  have rb := (o2.next l3).rd
  have ru := o3.rd
  have kb := o2.len.2
  have l03 := bnext (bnext l1 l2) l3
  have hT3 := hT.next l03
  have q1 := fun W => run_cut_h (P := Tryd.prog) (w := W) 29 5 Tryd.underlying29 j8 J8.out.1 A2 b.length c2 at_ (at_ : Int) rfl (by omega)
  have q2 := fun W => run_cut_l (P := Tryd.prog) (w := W) 29 5 Tryd.underlying29 j8 J8.out.1 J8.out.2 A2 b.length c2 at_ (at_ : Int) rfl (by omega)
  have ZT : Hid ((b.take at_).length = at_) := by show _ = _; rw [List.length_take]; omega
  have ZD : Hid ((b.drop at_).length = b.length - at_) := List.length_drop
  have rt := rb.take at_
  have rd := rb.drop c2 at_ kb
  have YT := Lib.hid (BY.out.take at_)
  have YD := Lib.hid (BY.out.drop at_)
  have zt4 : (b.take at_).length ≤ c2 := by rw [ZT.out]; omega
  have zd4 : (b.drop at_).length ≤ c2 - at_ := by rw [ZD.out]; omega
  have zt5 : (b.take at_).length ≤ 17592186044416 := by rw [ZT.out]; omega
  have zd5 : (b.drop at_).length ≤ 17592186044416 := by rw [ZD.out]; omega
  clear o1 o2 o3 l1 l2 l3 hT hg hb hus hat ig
  go_wp2_with fail
  go_cut [9] from 25 to 35 (fun v9 wx => ∃ (A9 : Option Addr) (c9 : Nat) (J : List Int), Hid (J = encs16 (runes8 (b.take at_)) ++ encs16 (runes8 (b.drop at_))) ∧ J.length ≤ 16777216 ∧ v9 = .slice A9 J.length c9 ∧ Own wx w3.heap.size 23 .u16 (.slice A9 J.length c9) J ∧ Below w3.heap.size w3 wx)
  case first =>
    go_region_law (first
      | (refine step_appRd rfl (.tmp 29) (.tmp 34) 22 rfl w3.heap.size 23 .u16 2 Tryd.underlying22 info_u16 c8 o8.rd _ rfl o6' (by rfl) (by rfl) hq1 hq2 L8.size ?_; intro A9 c9 J w9 hJ o9 g9)
      | (go_simp; go_at_call 30; refine (encodeUnits_any o7.rd I7 Z7).mono ?_; rintro e w8 ⟨A8, c8, u2, hu2, rfl, o8, l8⟩; have L8 := L7.trans (l8.mono L7.size); have o6' := o6.next (bnext l7 l8); have zu2' : u2.length ≤ 8388608 := (by rw [hu2.out]; have := (encs16_len r2).2; omega); have hq1 : (u1.length + u2.length) * 2 ≤ 140737488355328 := (by omega); have hq2 : u1.length + u2.length ≤ maxLen := (by unfold maxLen; omega))
      | (go_simp; go_at_call 31; refine (runesOf_any (rd.next L6) ZD.out YD.out (hT3.next L6) zd4 zd5).mono ?_; rintro e w7 ⟨A7, c7, r2, hr2, rfl, o7, l7⟩; have L7 := L6.trans (l7.mono L6.size); have I7 := runes8_i32 YD.out hr2.out; have zr2 : r2.length ≤ 4194304 := (by rw [hr2.out, runes8_len]; have := decs_le (b.drop at_); rw [ZD.out] at this; omega); have Z7 : r2.length ≤ 70368744177664 := (by omega))
      | (go_simp; go_at_call 30; refine (encodeUnits_any o5.rd I5 Z5).mono ?_; rintro e w6 ⟨A6, c6, u1, hu1, rfl, o6'', l6⟩; have L6 := L5.trans (l6.mono L5.size); have o6 := o6''.lower L5.size; have zu1 : u1.length ≤ 8388608 := (by rw [hu1.out]; have := (encs16_len r1).2; omega))
      | (go_simp; go_at_call 31; refine (runesOf_any (w := w3.drew) rt.drew ZT.out YT.out hT3 zt4 zt5).mono ?_; rintro e w5 ⟨A5, c5, r1, hr1, rfl, o5, l5'⟩; have L5 := below_drew l5'; have I5 := runes8_i32 YT.out hr1.out; have zr1 : r1.length ≤ 4194304 := (by rw [hr1.out, runes8_len]; have := decs_le (b.take at_); rw [ZT.out] at this; omega); have Z5 : r1.length ≤ 70368744177664 := (by omega)))
    all_goals
      have L9 := L8.trans (g9.below_ o6' L8.size)
      have HJ : Hid (J = encs16 (runes8 (b.take at_)) ++ encs16 (runes8 (b.drop at_))) := by show _ = _; rw [hJ.out, hu1.out, hu2.out, hr1.out, hr2.out]
      have zJ : J.length ≤ 16777216 := by rw [hJ.out, List.length_append]; omega
    all_goals (try go_wp2_with fail)
    all_goals go_meet
    all_goals exact ⟨A9, c9, J, HJ, zJ, rfl, o9, L9⟩
  case rest =>
    obtain ⟨A9, c9, J, hJ, zJ, rfl, o9, L9⟩ := hcut
    have d1 : decide (b.length < g.length) = false := by simp only [decide_eq_false_iff_not]; omega
    have d2 : decide (us.length < g.length) = false := by simp only [decide_eq_false_iff_not]; omega
    have rJ := o9.rd
    have ru9 := ru.next L9
    have rb9 := rb.next L9
    have hT9 := hT3.next L9
    have l09 := bnext l03 L9
    clear q1 q2 rt rd o9 rb ru hT3 ZT ZD YT YD zt4 zd4 zt5 zd5 L9 l03
    rcases (by omega : b.length ≤ at_ ∨ at_ < b.length) with hend | hlt
    · have t1 : ((at_ : Int) == (b.length : Int)) = true := by simp only [beq_iff_eq]; omega
      have HQ : Hid (decide (J = us) = true) := by
        show _ = _
        rw [hJ.out, HU.out, byteCut_none GG.out HB.out fun x hx => by rw [List.getElem?_eq_none hend] at hx; cases hx]; simp
      clear hend
      go_wp2_with fail
      refine (sameUnits_any rJ ru9 (by omega)).mono ?_
      rw [HQ.out]
      rintro e w10 ⟨rfl, n10, rfl⟩
      go_wp2
      go_ret
      exact ⟨rfl, bdrewN l09 n10⟩
    · have t1 : ((at_ : Int) == (b.length : Int)) = false := by simp only [beq_eq_false_iff_ne, ne_eq]; omega
      obtain ⟨b1, off1, x, hA1, hb1, hx, hc1⟩ := rb9.at_ hlt
      subst hA1
      have hx8 := BY.out x (List.mem_of_getElem? hx)
      have h1 : (at_ : Int) < (b.length : Int) := by omega
      have h0 : (0 : Int) ≤ (at_ : Int) := by omega
      cases hC : isC x
      · have hbt := (and_ne x hx8.1 hx8.2 _ hC).1
        have HQ : Hid (decide (J = us) = true) := by
          show _ = _
          rw [hJ.out, HU.out, byteCut_none GG.out HB.out fun y hy => by rw [hx] at hy; injection hy with hy; rw [← hy]; exact hC]; simp
        clear hx hC
        go_wp2_with fail
        refine (sameUnits_any rJ ru9 (by omega)).mono ?_
        rw [HQ.out]
        rintro e w10 ⟨rfl, n10, rfl⟩
        go_wp2
        go_ret
        exact ⟨rfl, bdrewN l09 n10⟩
      · have hbt := (and_ne x hx8.1 hx8.2 _ hC).1
        obtain ⟨fr, to_, f1, f2, f3, f4, f5, f6, f7⟩ := byteCut_mid GG.out HB.out hx hC
        have F4 := Lib.hid f4
        have F5 := Lib.hid f5
        have F6 := Lib.hid f6
        have F7 : Hid (J = encs16 (runes8 (b.take fr)) ++ List.replicate (to_ - fr) 65533 ++ encs16 (runes8 (b.drop to_))) := by show _ = _; rw [hJ.out, f7]
        clear f4 f5 f6 f7 hx hC hJ
        go_upto_region 10 with fail
        generalize wc = w9 at *
        go_cut [10] from 63 to 63 (fun v10 wx => v10 = .int .i64 at_ ∧ wx = w9)
        case first =>
          go_wp2_with fail
          go_meet
          exact ⟨rfl, rfl⟩
        obtain ⟨rfl, rfl⟩ := hcut
        rename_i Kx hKx
        refine hKx _ _ ?_
        refine wp_seq_k fun K2 hK2 => ?_
        generalize wc = w9 at *
        go_cut [10] from 64 to 75 (fun v10 wx => v10 = .int .i64 fr ∧ Below w9.heap.size w9 wx)
        case first =>
          go_wp2
          go_loopw [10] (fun v10 wr => ∃ j : Nat, fr ≤ j ∧ j ≤ at_ ∧ v10 = .int .i64 j ∧ Below w9.heap.size w9 wr) (fun v10 _ => (intOf v10).toNat)
          case atStart => exact ⟨at_, by omega, Nat.le_refl _, rfl, Below.refl _ _⟩
          case round =>
            obtain ⟨j, hj1, hj2, rfl, hbel⟩ := hrel
            obtain ⟨b2, off2, y, hA2, hb2, hy, hc2⟩ := (rb9.next hbel).at_ (i := j) (by omega)
            injection hA2 with hA2; injection hA2 with e1 e2; subst e1 e2
            have hy8 := BY.out y (List.mem_of_getElem? hy)
            have h2 : (j : Int) < (b.length : Int) := by omega
            have h3 : (0 : Int) ≤ (j : Int) := by omega
            by_cases hjf : fr < j
            · have hyc := (and_ne y hy8.1 hy8.2 _ (F5.out j y hjf (by omega) hy)).2
              have h4 : (0 : Int) < (j : Int) := by omega
              clear hy
              go_wp2
              go_roundw
              case rel => first | exact ⟨j - 1, by omega, by omega, by omega⟩ | exact ⟨j - 1, by omega, by omega, by go_num, hbel⟩
              case measure => simp [intOf]; omega
            · have hje : j = fr := by omega
              subst hje
              have hyC : isC y = false := by
                obtain ⟨z, hz, hzc⟩ := F4.out
                rw [hy] at hz; injection hz with hz; rw [hz]; exact hzc
              have hyc := (and_ne y hy8.1 hy8.2 _ hyC).2
              clear hy hyC hjf
              rcases (by omega : (j : Int) ≤ 0 ∨ (0 : Int) < (j : Int)) with h4 | h4
              · have h5 : ¬ (0 : Int) < (j : Int) := by omega
                go_wp2_with fail
                go_meet
                exact ⟨rfl, hbel⟩
              · go_wp2_with fail
                go_meet
                exact ⟨rfl, hbel⟩
        case rest =>
          obtain ⟨rfl, hbel⟩ := hcut
          generalize wc = w10 at *
          refine hK2 _ _ ?_
          refine wp_seq_k fun K3 hK3 => ?_
          go_cut [11] from 76 to 76 (fun v11 wx => v11 = .int .i64 at_ ∧ wx = w10)
          case first =>
            go_wp2_with fail
            go_meet
            exact ⟨rfl, rfl⟩
          obtain ⟨rfl, rfl⟩ := hcut
          refine hK3 _ _ ?_
          refine wp_seq_k fun K4 hK4 => ?_
          generalize wc = w10 at *
          go_cut [11] from 77 to 90 (fun v11 wx => v11 = .int .i64 to_ ∧ Below w9.heap.size w9 wx)
          case first =>
            go_wp2
            go_loopw [11] (fun v11 wr => ∃ m : Nat, at_ ≤ m ∧ m ≤ to_ ∧ v11 = .int .i64 m ∧ Below w9.heap.size w9 wr) (fun v11 _ => to_ - (intOf v11).toNat)
            case atStart => exact ⟨at_, Nat.le_refl _, by omega, rfl, hbel⟩
            case round =>
              obtain ⟨m, hm1, hm2, rfl, hbel2⟩ := hrel
              by_cases hmt : m < to_
              · obtain ⟨b3, off3, z, hA3, hb3, hz, hc3⟩ := (rb9.next hbel2).at_ (i := m) (by omega)
                injection hA3 with hA3; injection hA3 with e1 e2; subst e1 e2
                have hz8 := BY.out z (List.mem_of_getElem? hz)
                have hzc := (and_ne z hz8.1 hz8.2 _ (F5.out m z (by omega) hmt hz)).2
                have h6 : (m : Int) < (b.length : Int) := by omega
                have h7 : (0 : Int) ≤ (m : Int) := by omega
                clear hz
                go_wp2
                go_roundw
                case rel => first | exact ⟨m + 1, by omega, by omega, by go_num, hbel2⟩ | exact ⟨m + 1, by omega, by omega, by omega⟩
                case measure => simp [intOf]; omega
              · have hme : m = to_ := by omega
                subst hme
                rcases (by omega : b.length ≤ m ∨ m < b.length) with hmb | hmb
                · have h6 : ¬ (m : Int) < (b.length : Int) := by omega
                  go_wp2_with fail
                  go_meet
                  exact ⟨rfl, hbel2⟩
                · obtain ⟨b3, off3, z, hA3, hb3, hz, hc3⟩ := (rb9.next hbel2).at_ (i := m) hmb
                  injection hA3 with hA3; injection hA3 with e1 e2; subst e1 e2
                  have hz8 := BY.out z (List.mem_of_getElem? hz)
                  have hzc := (and_ne z hz8.1 hz8.2 _ (F6.out z hz)).2
                  have h6 : (m : Int) < (b.length : Int) := by omega
                  have h7 : (0 : Int) ≤ (m : Int) := by omega
                  clear hz
                  go_wp2_with fail
                  go_meet
                  exact ⟨rfl, hbel2⟩
          case rest =>
            obtain ⟨rfl, hbel2⟩ := hcut
            generalize wc = w11 at *
            refine hK4 _ _ ?_
            have rb2 := rb9.next hbel2
            have hT2 := hT9.next hbel2
            have ZT : Hid ((b.take fr).length = fr) := by show _ = _; rw [List.length_take]; omega
            have ZD : Hid ((b.drop to_).length = b.length - to_) := List.length_drop
            clear hc1 hbel rb9
            generalize hAA : (some (⟨b1, off1, none⟩ : Addr)) = A22 at *
            have k1 := fun W => run_cut_h (P := Tryd.prog) (w := W) 29 5 Tryd.underlying29 j8 J8.out.1 A22 b.length c2 fr (fr : Int) rfl (by omega)
            have k2 := fun W => run_cut_l (P := Tryd.prog) (w := W) 29 5 Tryd.underlying29 j8 J8.out.1 J8.out.2 A22 b.length c2 to_ (to_ : Int) rfl (by omega)
            have HAA := Lib.hid hAA
            clear hAA
            go_wp2_with fail
            refine (runesOf_any (rb2.take fr) ZT.out (BY.out.take _) hT2 (by rw [ZT.out]; omega) (by rw [ZT.out]; omega)).mono ?_
            rintro e w11 ⟨A11, c11, r1, hr1, rfl, o11, l11⟩
            have zr1 : r1.length ≤ 4194304 := by rw [hr1.out, runes8_len]; have := decs_le (b.take fr); rw [ZT.out] at this; omega
            go_wp2_with fail
            refine (encodeUnits_any o11.rd (runes8_i32 (BY.out.take _) hr1.out) (by omega)).mono ?_
            rintro e w12 ⟨A12, c12, u1, hu1, rfl, o12, l12⟩
            have zu1 : u1.length ≤ 8388608 := by rw [hu1.out]; have := (encs16_len r1).2; omega
            have l112 := bnext l11 l12
            go_wp2_with fail
            refine (runesOf_any ((rb2.next l112).drop c2 to_ kb) ZD.out (BY.out.drop _) (hT2.next l112) (by rw [ZD.out]; omega) (by rw [ZD.out]; omega)).mono ?_
            rintro e w13 ⟨A13, c13, r2, hr2, rfl, o13, l13⟩
            have zr2 : r2.length ≤ 4194304 := by rw [hr2.out, runes8_len]; have := decs_le (b.drop to_); rw [ZD.out] at this; omega
            go_wp2_with fail
            refine (encodeUnits_any o13.rd (runes8_i32 (BY.out.drop _) hr2.out) (by omega)).mono ?_
            rintro e w14 ⟨A14, c14, u2, hu2, rfl, o14, l14⟩
            have zu2' : u2.length ≤ 8388608 := by rw [hu2.out]; have := (encs16_len r2).2; omega
            have l134 := bnext l13 l14
            have r12 := (o12.next l134).rd
            have r14 := o14.rd
            have lw := bnext hbel2 (bnext l112 l134)
            have rJ4 := rJ.next lw
            have HJ : Hid (J = u1 ++ List.replicate (to_ - fr) 65533 ++ u2) := by show _ = _; rw [F7.out, hu1.out, hu2.out, hr1.out, hr2.out]
            have l0w := bnext l09 lw
            clear o11 o12 o13 o14 l11 l12 l13 l14 l112 l134 hu1 hu2 hr1 hr2 F7 k1 k2 rb2 hT2 hbel2 rJ hT9 ru9 l09 lw ZT ZD
            go_wp2_with (at_builtin; refine wpList_appRd _ rfl _ _ 22 rfl w14.heap.size 23 .u16 2 Tryd.underlying22 info_u16 c12 (r12.alloc _) _ rfl (Own.empty _ _ _) rfl rfl (by simp; omega) (by unfold maxLen; simp; omega) (by simp) ?_; intro A15 c15 d1 w15 hd1 o15 g15)
            have b15 : Below w14.heap.size w14 w15 := g15.below_lit
            have HD1 : Hid (d1 = u1 ++ List.replicate 0 65533) := by show _ = _; rw [hd1.out]; simp
            clear g15 hd1
            go_loopw [14, 107] (fun v14 v107 wr => ∃ (k : Nat) (A : Option Addr) (c : Nat) (acc : List Int), k ≤ to_ - fr ∧ v107 = .int .i64 k ∧ Hid (acc = u1 ++ List.replicate k 65533) ∧ v14 = .slice A acc.length c ∧ Own wr w14.heap.size 23 .u16 (.slice A acc.length c) acc ∧ Below w14.heap.size w14 wr) (fun _ v107 _ => to_ - fr - (intOf v107).toNat)
            case atStart => exact ⟨0, A15, c15, d1, Nat.zero_le _, rfl, HD1, rfl, o15, b15⟩
            case round =>
              clear o15 b15 HD1
              obtain ⟨k, A16, c16, acc, hk, rfl, hacc, rfl, hown, hbl⟩ := hrel
              have hle : acc.length ≤ 8388608 + k := by rw [hacc.out, List.length_append, List.length_replicate]; omega
              have hsz := hbl.size
              by_cases hkl : k < to_ - fr
              · have h8 : (k : Int) < (to_ : Int) - (fr : Int) := by omega
                go_wp2_with (at_builtin; refine wpList_app1 _ rfl _ _ 22 rfl w14.heap.size 23 .u16 2 Tryd.underlying22 info_u16 65533 hown rfl rfl (by omega) (by unfold maxLen; omega) hsz ?_; intro A17 c17 acc1 w17 he1 hown1 hg1)
                have hb17 := hg1.below_new hown hsz
                clear hown hg1
                go_roundw
                case rel =>
                  refine ⟨k + 1, A17, c17, acc1, by omega, by go_num, ?_, rfl, hown1, hbl.trans hb17⟩
                  show _ = _
                  rw [he1.out, hacc.out, List.replicate_succ', List.append_assoc]
                case measure => simp [intOf]; omega
              · have h8 : ¬ (k : Int) < (to_ : Int) - (fr : Int) := by omega
                have hke : k = to_ - fr := by omega
                go_wp2_with (first
                  | (at_builtin; refine wpList_appRd _ rfl _ _ 22 rfl w14.heap.size 23 .u16 2 Tryd.underlying22 info_u16 c14 (r14.next hbl) _ rfl hown rfl rfl (by omega) (by unfold maxLen; omega) hsz ?_; intro A18 c18 D w18 hD o18 g18; have b18 := hbl.trans (g18.below_ hown hsz); have HQ : Hid (decide (J = D) = true) := (by show _ = _; rw [HJ.out, hD.out, hacc.out, hke]; simp))
                  | (go_at_call 32; refine (sameUnits_any (rJ4.next b18) o18.rd (by omega)).mono ?_; rw [HQ.out]; rintro e w19 ⟨rfl, n19, rfl⟩))
                go_ret
                exact ⟨rfl, bdrewN (bnext l0w b18) n19⟩
end Go.Proofs.YtcbfbccmghdpgabDoor
