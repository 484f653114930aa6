/- FnFurtherByte: the walk. -/
import Derived.Test.YtcbfbccmghdpgaaDoorWOtherByte
import Derived.Test.YtcbfbccmghdpgaaDoorStep2
set_option linter.unusedVariables false
namespace Go.Proofs.YtcbfbccmghdpgaaDoor
open Go.RowKit P

set_option maxRecDepth 100000 in
set_option maxHeartbeats 2000000 in
theorem furtherByte_walk {A : Option Addr} {xs : List Int} {c : Nat} {kk ch : Int} {w : World} (hx : Rd w .i32 A xs) (hi : I32 xs) (hT : Tabs w) (hl : xs.length ≤ 1048576) (hch : 0 ≤ ch ∧ ch < 256) :
    Calls Tryd.prog 10 #[.slice A xs.length c, .int .i64 kk, .int .u8 ch] w fun e w' => e = .returned (.bool true) ∧ Below w.heap.size w w' := by
  obtain ⟨j32, hj32, _, hs32, _⟩ := info_parts info_i32
  obtain ⟨j8, hj8, _, hs8, _⟩ := info_parts info_u8
  have J32 := Lib.hid (And.intro hj32 hs32)
  have J8 := Lib.hid (And.intro hj8 hs8)
  have HCH := Lib.hid hch
  clear hj32 hs32 hj8 hs8 hch
  go_enter Tryd.func10, Tryd.ntmps10
  go_wp2_with fail
  refine (goodOnes_any hx (by omega)).mono ?_
  rintro e w1 ⟨A1, c1, g, hg, rfl, o1, l1⟩
  have zg : g.length ≤ 1048576 := by rw [hg.out]; have := filter_le xs; omega
  have ig := hi.good hg.out
  have gg : ∀ r ∈ g, good r = true := by rw [hg.out]; exact good_filter xs
  have GG := Lib.hid gg
  clear gg hx
  go_wp2_with fail
  refine (appendNil_any o1.rd ig (by omega)).mono ?_
  rintro e w2 ⟨A2, c2, b, hb, rfl, o2, l2⟩
  go_wp2_with fail
  refine (byteLens_any (o1.next l2).rd (by omega)).mono ?_
  rintro e w3 ⟨A3, c3, ls, hls, rfl, o3, l3⟩
  have zl : ls.length ≤ 1048576 := by rw [hls.out, List.length_map]; exact zg
  go_wp2_with fail
  refine (endsOf_any o3.rd (lens_bounds hls.out) (by omega)).mono ?_
  rintro e w4 ⟨A4, c4, en, hen, rfl, o4, l4⟩
  have hpl : en = places 0 g := by rw [hen.out, hls.out]; rfl
  have HPL := Lib.hid hpl
  have ze : en.length = g.length + 1 := by rw [hpl, places_length]
  have zb : b.length ≤ 4194304 := by rw [hb.out]; have := (encs_len g).2; omega
  have by_ : Bytes b := by rw [hb.out]; exact encs_bytes g
  have BY := Lib.hid by_
  have t1 : ((en.length : Int) != (g.length : Int) + 1) = false := by simp only [bne_eq_false_iff_eq]; omega
  have hlast : en[g.length]? = some ((b.length : Int)) := by rw [HPL.out, places_last 0 GG.out, hb.out]; simp
  obtain ⟨be, offe, ye, hAe, hbe, hye, hce⟩ := (o4.rd).at_ (i := en.length - 1) (by omega)
  have hye2 : ye = (b.length : Int) := by
    rw [show en.length - 1 = g.length by omega, hlast] at hye
    injection hye with hye; exact hye.symm
  subst hye2
  have ie : (1 : Int) ≤ (en.length : Int) := by omega
  have ie2 : en.length ≤ 1048577 := by omega
  have ZE := Lib.hid ze
  have t3 : ((b.length : Int) != (b.length : Int)) = false := by simp
  have l24 := bnext l3 l4
  have rg := (o1.next (bnext l2 l24)).rd
  have rb := (o2.next l24).rd
  have kb := o2.len.2
  have ren := o4.rd
  have kg := o1.len.2
  have l04 := bnext (bnext l1 l2) l24
  subst hAe
  have HB : Hid (b = encs g) := hb
  clear o1 o2 o3 o4 l1 l2 l3 l4 l24 hye hlast hpl by_ ze hls hen hb hg ig zl
  go_wp2_with fail
  refine (placeIn_any kk (b.length : Int) (by omega) (by omega) _).mono ?_
  rintro e w0 ⟨at_, hat, rfl, rfl⟩
  have hat' : at_ ≤ b.length := by omega
  obtain ⟨bf, bh, i1, i2, i3, i4, i5⟩ := further_facts (c := ch) GG.out HB.out HPL.out HCH.out hat'
  have I3 := Lib.hid i3
  have I4 := Lib.hid i4
  have I5 := Lib.hid i5
  clear i3 i4 i5 hat
  go_wp2
  go_loopw [11, 12, 45] (fun v11 v12 v45 wr => ∃ (k p q : Nat), k ≤ g.length ∧ p ≤ k ∧ q ≤ k ∧ v11 = .int .i64 p ∧ v12 = .int .i64 q ∧ v45 = .int .i64 k ∧ Hid (p = min k bf) ∧ Hid (q = k - (g.length - bh)) ∧ Below w4.heap.size w4 wr) (fun _ _ v45 _ => g.length - (intOf v45).toNat)
  case atStart => exact ⟨0, 0, 0, Nat.zero_le _, Nat.zero_le _, Nat.zero_le _, rfl, rfl, rfl, (by show _ = _; omega), (by show _ = _; omega), Below.refl _ _⟩
  case round =>
    obtain ⟨k, p, q, hk, hp, hq, rfl, rfl, rfl, hP, hQ, hbel⟩ := hrel
    by_cases hlt : k < g.length
    · obtain ⟨b1, off1, y, hA1, hb1, hy, hc1⟩ := (ren.next hbel).at_ (i := k + 1) (by rw [ZE.out]; omega)
      obtain ⟨b2, off2, z, hA2, hb2, hz, hc2⟩ := (ren.next hbel).at_ (i := k) (by rw [ZE.out]; omega)
      injection hA1 with hA1; injection hA1 with e1 e2; subst e1 e2
      injection hA2 with hA2; injection hA2 with e1 e2; subst e1 e2
      have hyi := I3.out k y hlt hy
      have hzi := I4.out k z hlt hz
      have h1 : (k : Int) < (g.length : Int) := by omega
      have h2 : (k : Int) + 1 < (en.length : Int) := by rw [ZE.out]; omega
      have h3 : (k : Int) < (en.length : Int) := by rw [ZE.out]; omega
      have h4 : (0 : Int) ≤ (k : Int) := by omega
      have h5 : (0 : Int) ≤ (k : Int) + 1 := by omega
      clear hy hz
      by_cases ha : k < bf <;> by_cases hb_ : g.length - bh ≤ k
      · have g1 : y ≤ (at_ : Int) := hyi.2 ha
        have g2 : (at_ : Int) ≤ z := hzi.2 hb_
        have HE : Hid (p + 1 = min (k + 1) bf) := by have := hP.out; show _ = _; omega
        have HF : Hid (q + 1 = k + 1 - (g.length - bh)) := by have := hQ.out; show _ = _; omega
        clear hyi hzi ha hb_ hP hQ
        go_wp2
        go_roundw
        case rel => exact ⟨k + 1, p + 1, q + 1, by omega, by omega, by omega, by go_num, by go_num, by go_num, HE, HF, hbel⟩
        case measure => simp [intOf]; omega
      · have g1 : y ≤ (at_ : Int) := hyi.2 ha
        have g2 : ¬ (at_ : Int) ≤ z := fun h => hb_ (hzi.1 h)
        have HE : Hid (p + 1 = min (k + 1) bf) := by have := hP.out; show _ = _; omega
        have HF : Hid (q = k + 1 - (g.length - bh)) := by have := hQ.out; show _ = _; omega
        clear hyi hzi ha hb_ hP hQ
        go_wp2
        go_roundw
        case rel => exact ⟨k + 1, p + 1, q, by omega, by omega, by omega, by go_num, by go_num, by go_num, HE, HF, hbel⟩
        case measure => simp [intOf]; omega
      · have g1 : ¬ y ≤ (at_ : Int) := fun h => ha (hyi.1 h)
        have g2 : (at_ : Int) ≤ z := hzi.2 hb_
        have HE : Hid (p = min (k + 1) bf) := by have := hP.out; show _ = _; omega
        have HF : Hid (q + 1 = k + 1 - (g.length - bh)) := by have := hQ.out; show _ = _; omega
        clear hyi hzi ha hb_ hP hQ
        go_wp2
        go_roundw
        case rel => exact ⟨k + 1, p, q + 1, by omega, by omega, by omega, by go_num, by go_num, by go_num, HE, HF, hbel⟩
        case measure => simp [intOf]; omega
      · have g1 : ¬ y ≤ (at_ : Int) := fun h => ha (hyi.1 h)
        have g2 : ¬ (at_ : Int) ≤ z := fun h => hb_ (hzi.1 h)
        have HE : Hid (p = min (k + 1) bf) := by have := hP.out; show _ = _; omega
        have HF : Hid (q = k + 1 - (g.length - bh)) := by have := hQ.out; show _ = _; omega
        clear hyi hzi ha hb_ hP hQ
        go_wp2
        go_roundw
        case rel => exact ⟨k + 1, p, q, by omega, by omega, by omega, by go_num, by go_num, by go_num, HE, HF, hbel⟩
        case measure => simp [intOf]; omega
    · have h1 : ¬ (k : Int) < (g.length : Int) := by omega
      have hpe : p = bf := by have := hP.out; omega
      have hqe : q = bh := by have := hQ.out; omega
      subst hpe hqe
      have rb1 := rb.next hbel
      have q1 := fun W => run_cut_h (P := Tryd.prog) (w := W) 29 5 Tryd.underlying29 j8 J8.out.1 A2 b.length c2 at_ (at_ : Int) rfl (by omega)
      have q2 := fun W => run_cut_l (P := Tryd.prog) (w := W) 29 5 Tryd.underlying29 j8 J8.out.1 J8.out.2 A2 b.length c2 at_ (at_ : Int) rfl (by omega)
      clear hP hQ hlt
      have zt : (b.take at_).length = at_ := by rw [List.length_take]; omega
      have ZT := Lib.hid zt
      have rt := rb1.take at_
      have rd := rb1.drop c2 at_ kb
      have zd : (b.drop at_).length = b.length - at_ := List.length_drop
      have ZD := Lib.hid zd
      have HAL : wr.heap.size ≤ (wr.alloc (.cells #[.int .u8 ch] 5)).drew.heap.size := ((Below.refl wr.heap.size wr).alloc (Nat.le_refl _) (.cells #[.int .u8 ch] 5)).size
      clear zt zd
      go_wp2_with fail
      go_cut [14] from 66 to 76 (fun v14 wx => ∃ (A7 : Option Addr) (c7 : Nat) (m : List Int), Hid (m = b.take at_ ++ [ch] ++ b.drop at_) ∧ v14 = .slice A7 m.length c7 ∧ Own wx wr.heap.size 5 .u8 (.slice A7 m.length c7) m ∧ Below wr.heap.size wr wx)
      case first =>
        go_region_law (first
          | (refine step_appRd rfl (.tmp 72) (.tmp 75) 29 rfl wr.heap.size 5 .u8 1 Tryd.underlying29 info_u8 (c2 - at_) (rd.next L6) _ ZD.out o6 (by rfl) (by rfl) hq3 hq4 L6.size ?_; intro A7 c7 m2 w7 hm2 o7 g7)
          | (refine step_appRd rfl (.tmp 69) (.tmp 71) 29 rfl wr.heap.size 5 .u8 1 Tryd.underlying29 info_u8 1 (Rd.one w5 .u8 5 ch) 1 rfl (o5.alloc _) (by rfl) (by rfl) hq1 hq2 HS5 ?_; intro A6 c6 m1 w6 hm1 o6 g6; have L6 := L5.trans (g6.below_new o5 L5.size); have zm1 : m1.length = at_ + 1 := (by rw [hm1.out, List.length_append, ht5.out, ZT.out]; rfl); have hq3 : (m1.length + (b.drop at_).length) * 1 ≤ 140737488355328 := (by rw [zm1, ZD.out]; omega); have hq4 : m1.length + (b.drop at_).length ≤ maxLen := (by unfold maxLen; rw [zm1, ZD.out]; omega); clear zm1)
          | (refine step_appRd rfl (.tmp 69) (.tmp 71) 29 rfl wr.heap.size 5 .u8 1 Tryd.underlying29 info_u8 1 R1 1 rfl o5 (by rfl) (by rfl) hq1 hq2 L5.size ?_; intro A6 c6 m1 w6 hm1 o6 g6; have L6 := L5.trans (g6.below_ o5 L5.size); have zm1 : m1.length = at_ + 1 := (by rw [hm1.out, List.length_append, ht5.out, ZT.out]; rfl); have hq3 : (m1.length + (b.drop at_).length) * 1 ≤ 140737488355328 := (by rw [zm1, ZD.out]; omega); have hq4 : m1.length + (b.drop at_).length ≤ maxLen := (by unfold maxLen; rw [zm1, ZD.out]; omega); clear zm1)
          | (go_simp; go_at_call 22; refine (copied_q (w := wr.drew) rt.drew ZT.out (by rw [ZT.out]; omega)).mono ?_; rintro e w5 ⟨A5, c5, t5, ht5, rfl, o5', l5'⟩; have o5 : Own w5 wr.heap.size 5 .u8 (.slice A5 t5.length c5) t5 := o5'; have L5 := below_drew l5'; have HS5 : wr.heap.size ≤ (w5.alloc (.cells #[.int .u8 ch] 5)).heap.size := Nat.le_trans L5.size ((Below.refl w5.heap.size w5).alloc (Nat.le_refl _) (.cells #[.int .u8 ch] 5)).size; have hq1 : (t5.length + 1) * 1 ≤ 140737488355328 := (by rw [ht5.out, ZT.out]; omega); have hq2 : t5.length + 1 ≤ maxLen := (by unfold maxLen; rw [ht5.out, ZT.out]; omega))
          | (go_simp; go_at_call 22; refine (copied_q (w := (wr.alloc (.cells #[.int .u8 ch] 5)).drew) (rt.alloc (.cells #[.int .u8 ch] 5)).drew ZT.out (by rw [ZT.out]; omega)).mono ?_; rintro e w5 ⟨A5, c5, t5, ht5, rfl, o5', l5'⟩; have o5 : Own w5 wr.heap.size 5 .u8 (.slice A5 t5.length c5) t5 := o5'.lower HAL; have L5 := below_alloc_drew l5'; have R1 : Rd w5 .u8 (some ⟨wr.heap.size, 0, none⟩) [ch] := (Rd.one wr .u8 5 ch).drew.next l5'; have hq1 : (t5.length + 1) * 1 ≤ 140737488355328 := (by rw [ht5.out, ZT.out]; omega); have hq2 : t5.length + 1 ≤ maxLen := (by unfold maxLen; rw [ht5.out, ZT.out]; omega)))
        all_goals
          have L7 := L6.trans (g7.below_ o6 L6.size)
          have HM2 : Hid (m2 = b.take at_ ++ [ch] ++ b.drop at_) := by show _ = _; rw [hm2.out, hm1.out, ht5.out]
        all_goals (try go_wp2_with fail)
        all_goals go_meet
        all_goals exact ⟨A7, c7, m2, HM2, rfl, o7, L7⟩
      case rest =>
        obtain ⟨A7, c7, m, hm, rfl, o7, L7⟩ := hcut
        have zm : Hid (m.length = b.length + 1) := by show _ = _; rw [hm.out]; simp; omega
        have ym : Bytes m := by
          rw [hm.out]
          exact ((BY.out.take _).app (fun x hx => by simp at hx; rw [hx]; exact HCH.out)).app (BY.out.drop _)
        have YM := Lib.hid ym
        clear ym q1 q2 rt rd rb1 HAL
        go_wp2_with fail
        refine (decodeBytes_any o7.rd YM.out (hT.next (bnext (bnext l04 hbel) L7)) o7.len.2 (by rw [zm.out]; omega)).mono ?_
        rintro e w6 ⟨A6, c6, A8, c8, rs, ss, hrs, hss, rfl, o8, o9, l6⟩
        obtain ⟨f1, f3, f4⟩ := I5.out rs (by rw [hrs.out, hm.out])
        have F3 := Lib.hid f3
        have F4 := Lib.hid f4
        have zrs : rs.length ≤ 4194305 := by rw [hrs.out]; have := runes8_le m; rw [zm.out] at this; omega
        have zss : ss.length = rs.length := by rw [hss.out, hrs.out, sizes8_len, runes8_len]
        have t5 : ((ss.length : Int) != (rs.length : Int)) = false := by simp only [bne_eq_false_iff_eq]; omega
        have hsum : ss.sum = (b.length : Int) + 1 := by rw [hss.out, sizes8_sum YM.out, zm.out]; simp
        have k8 := o8.len.2
        have l16 := bnext L7 l6
        have rg6 := rg.next (bnext hbel l16)
        have r9 := o9.rd
        have HSM := Lib.hid hsum
        have SB := sizes8_eight YM.out hss.out
        have C1 := Lib.hid (sameRunes_at (c := c6) (c' := c1) (n := p) (m := p) ((o8.rd).take p) (rg6.take p) (by rw [List.length_take]; omega) (by rw [List.length_take]; omega) (by omega) F3.out)
        have C2 := Lib.hid (sameRunes_at (c := c6 - (rs.length - q)) (c' := c1 - (g.length - q)) (n := rs.length - (rs.length - q)) (m := g.length - (g.length - q)) ((o8.rd).drop c6 (rs.length - q) k8) (rg6.drop c1 (g.length - q) kg) (by rw [List.length_drop]) (by rw [List.length_drop]) (by omega) F4.out)
        have q1 := fun W => run_cut_h (P := Tryd.prog) (w := W) 22 21 Tryd.underlying22 j32 J32.out.1 A6 rs.length c6 p (p : Int) rfl (by omega)
        have q2 := fun W => run_cut_h (P := Tryd.prog) (w := W) 22 21 Tryd.underlying22 j32 J32.out.1 A1 g.length c1 p (p : Int) rfl (by omega)
        have q3 := fun W => run_cut_l (P := Tryd.prog) (w := W) 22 21 Tryd.underlying22 j32 J32.out.1 J32.out.2 A6 rs.length c6 (rs.length - q) ((rs.length : Int) - (q : Int)) (by omega) (by omega)
        have q4 := fun W => run_cut_l (P := Tryd.prog) (w := W) 22 21 Tryd.underlying22 j32 J32.out.1 J32.out.2 A1 g.length c1 (g.length - q) ((g.length : Int) - (q : Int)) (by omega) (by omega)
        have v1 : IntKind.i64.wrap ((rs.length : Int) - (q : Int)) = (rs.length : Int) - (q : Int) := IntWalk.i64_in _ (by omega)
        have v2 : IntKind.i64.wrap ((g.length : Int) - (q : Int)) = (g.length : Int) - (q : Int) := IntWalk.i64_in _ (by omega)
        have l06 := bnext l04 (bnext hbel l16)
        have ZSS := Lib.hid zss
        have hzs : ss.length ≤ 4194305 := by omega
        clear o7 o8 o9 l6 L7 l16 f3 f4 zss hsum rg6 hrs hss hm
        go_wp2_with (go_at_call 27; refine (summed_any r9 SB (by omega)).mono ?_; rw [HSM.out]; rintro e w' ⟨rfl, rfl⟩)
        go_quiet ((go_at_call 17; first | (with_reducible exact quiet_at (C1.out _)) | (with_reducible exact quiet_at (C2.out _))))
        go_wp2
        go_ret
        exact ⟨rfl, bdrewN l06 _⟩
end Go.Proofs.YtcbfbccmghdpgaaDoor
