/- FnLostBytes: the walk. -/
import Derived.Test.YtcbfbccmghdpgaaDoorWOtherByte
import Derived.Test.YtcbfbccmghdpgaaDoorStep2
set_option linter.unusedVariables false
namespace Go.Proofs.YtcbfbccmghdpgaaDoor
open Go.RowKit P

set_option maxRecDepth 100000 in
set_option maxHeartbeats 2000000 in
theorem lostBytes_walk {A : Option Addr} {xs : List Int} {c : Nat} {kk mm : Int} {w : World} (hx : Rd w .i32 A xs) (hi : I32 xs) (hT : Tabs w) (hl : xs.length ≤ 1048576) :
    Calls Tryd.prog 11 #[.slice A xs.length c, .int .i64 kk, .int .i64 mm] w fun e w' => e = .returned (.bool true) ∧ Below w.heap.size w w' := by
  obtain ⟨j32, hj32, _, hs32, _⟩ := info_parts info_i32
  obtain ⟨j8, hj8, _, hs8, _⟩ := info_parts info_u8
  have J32 := Lib.hid (And.intro hj32 hs32)
  have J8 := Lib.hid (And.intro hj8 hs8)
  clear hj32 hs32 hj8 hs8
  go_enter Tryd.func11, Tryd.ntmps11
  go_wp2_with fail
  refine (goodOnes_any hx (by omega)).mono ?_
  rintro e w1 ⟨A1, c1, g, hg, rfl, o1, l1⟩
  have zg : g.length ≤ 1048576 := by rw [hg.out]; have := filter_le xs; omega
  have ig := hi.good hg.out
  have gg : ∀ r ∈ g, good r = true := by rw [hg.out]; exact good_filter xs
  have GG := Lib.hid gg
  clear gg hx
  go_wp2_with fail
  refine (appendNil_any o1.rd ig (by omega)).mono ?_
  rintro e w2 ⟨A2, c2, b, hb, rfl, o2, l2⟩
  go_wp2_with fail
  refine (byteLens_any (o1.next l2).rd (by omega)).mono ?_
  rintro e w3 ⟨A3, c3, ls, hls, rfl, o3, l3⟩
  have zl : ls.length ≤ 1048576 := by rw [hls.out, List.length_map]; exact zg
  go_wp2_with fail
  refine (endsOf_any o3.rd (lens_bounds hls.out) (by omega)).mono ?_
  rintro e w4 ⟨A4, c4, en, hen, rfl, o4, l4⟩
  have hpl : en = places 0 g := by rw [hen.out, hls.out]; rfl
  have HPL := Lib.hid hpl
  have ze : en.length = g.length + 1 := by rw [hpl, places_length]
  have zb : b.length ≤ 4194304 := by rw [hb.out]; have := (encs_len g).2; omega
  have by_ : Bytes b := by rw [hb.out]; exact encs_bytes g
  have BY := Lib.hid by_
  have t1 : ((en.length : Int) != (g.length : Int) + 1) = false := by simp only [bne_eq_false_iff_eq]; omega
  have hlast : en[g.length]? = some ((b.length : Int)) := by rw [HPL.out, places_last 0 GG.out, hb.out]; simp
  obtain ⟨be, offe, ye, hAe, hbe, hye, hce⟩ := (o4.rd).at_ (i := en.length - 1) (by omega)
  have hye2 : ye = (b.length : Int) := by
    rw [show en.length - 1 = g.length by omega, hlast] at hye
    injection hye with hye; exact hye.symm
  subst hye2
  have ie : (1 : Int) ≤ (en.length : Int) := by omega
  have ie2 : en.length ≤ 1048577 := by omega
  have ZE := Lib.hid ze
  have t3 : ((b.length : Int) != (b.length : Int)) = false := by simp
  have l24 := bnext l3 l4
  have rg := (o1.next (bnext l2 l24)).rd
  have rb := (o2.next l24).rd
  have kb := o2.len.2
  have ren := o4.rd
  have kg := o1.len.2
  have l04 := bnext (bnext l1 l2) l24
  subst hAe
  have HB : Hid (b = encs g) := hb
  clear o1 o2 o3 o4 l1 l2 l3 l4 l24 hye hlast hpl by_ ze hls hen hb hg ig zl
  go_wp2_with fail
  refine (placeIn_any kk (b.length : Int) (by omega) (by omega) _).mono ?_
  rintro e w0 ⟨fr, hfr, rfl, rfl⟩
  have hfr' : fr ≤ b.length := by omega
  have hfd : (0 : Int) ≤ (b.length : Int) - (fr : Int) := by omega
  go_wp2_with fail
  refine (placeIn_any mm ((b.length : Int) - (fr : Int)) (by omega) (by omega) _).mono ?_
  rintro e w0 ⟨d, hd, rfl, rfl⟩
  have hd' : fr + d ≤ b.length := by omega
  obtain ⟨bf, bh, i1, i2, i3, i4, i5⟩ := lost_facts (fr := fr) (to_ := fr + d) GG.out HB.out HPL.out (by omega) hd'
  have I3 := Lib.hid i3
  have I4 := Lib.hid i4
  have I5 := Lib.hid i5
  clear i3 i4 i5 hfr hd
  go_wp2
  go_loopw [12, 13, 53] (fun v12 v13 v53 wr => ∃ (k p q : Nat), k ≤ g.length ∧ p ≤ k ∧ q ≤ k ∧ v12 = .int .i64 p ∧ v13 = .int .i64 q ∧ v53 = .int .i64 k ∧ Hid (p = min k bf) ∧ Hid (q = k - (g.length - bh)) ∧ Below w4.heap.size w4 wr) (fun _ _ v53 _ => g.length - (intOf v53).toNat)
  case atStart => exact ⟨0, 0, 0, Nat.zero_le _, Nat.zero_le _, Nat.zero_le _, rfl, rfl, rfl, (by show _ = _; omega), (by show _ = _; omega), Below.refl _ _⟩
  case round =>
    obtain ⟨k, p, q, hk, hp, hq, rfl, rfl, rfl, hP, hQ, hbel⟩ := hrel
    by_cases hlt : k < g.length
    · obtain ⟨b1, off1, y, hA1, hb1, hy, hc1⟩ := (ren.next hbel).at_ (i := k + 1) (by rw [ZE.out]; omega)
      obtain ⟨b2, off2, z, hA2, hb2, hz, hc2⟩ := (ren.next hbel).at_ (i := k) (by rw [ZE.out]; omega)
      injection hA1 with hA1; injection hA1 with e1 e2; subst e1 e2
      injection hA2 with hA2; injection hA2 with e1 e2; subst e1 e2
      have hyi := I3.out k y hlt hy
      have hzi := I4.out k z hlt hz
      have h1 : (k : Int) < (g.length : Int) := by omega
      have h2 : (k : Int) + 1 < (en.length : Int) := by rw [ZE.out]; omega
      have h3 : (k : Int) < (en.length : Int) := by rw [ZE.out]; omega
      have h4 : (0 : Int) ≤ (k : Int) := by omega
      have h5 : (0 : Int) ≤ (k : Int) + 1 := by omega
      clear hy hz
      by_cases ha : k < bf <;> by_cases hb_ : g.length - bh ≤ k
      · have g1 : y ≤ (fr : Int) := hyi.2 ha
        have g2 : (fr : Int) + (d : Int) ≤ z := by have := hzi.2 hb_; omega
        have HE : Hid (p + 1 = min (k + 1) bf) := by have := hP.out; show _ = _; omega
        have HF : Hid (q + 1 = k + 1 - (g.length - bh)) := by have := hQ.out; show _ = _; omega
        clear hyi hzi ha hb_ hP hQ
        go_wp2
        go_roundw
        case rel => exact ⟨k + 1, p + 1, q + 1, by omega, by omega, by omega, by go_num, by go_num, by go_num, HE, HF, hbel⟩
        case measure => simp [intOf]; omega
      · have g1 : y ≤ (fr : Int) := hyi.2 ha
        have g2 : ¬ (fr : Int) + (d : Int) ≤ z := fun h => hb_ (hzi.1 (by omega))
        have HE : Hid (p + 1 = min (k + 1) bf) := by have := hP.out; show _ = _; omega
        have HF : Hid (q = k + 1 - (g.length - bh)) := by have := hQ.out; show _ = _; omega
        clear hyi hzi ha hb_ hP hQ
        go_wp2
        go_roundw
        case rel => exact ⟨k + 1, p + 1, q, by omega, by omega, by omega, by go_num, by go_num, by go_num, HE, HF, hbel⟩
        case measure => simp [intOf]; omega
      · have g1 : ¬ y ≤ (fr : Int) := fun h => ha (hyi.1 h)
        have g2 : (fr : Int) + (d : Int) ≤ z := by have := hzi.2 hb_; omega
        have HE : Hid (p = min (k + 1) bf) := by have := hP.out; show _ = _; omega
        have HF : Hid (q + 1 = k + 1 - (g.length - bh)) := by have := hQ.out; show _ = _; omega
        clear hyi hzi ha hb_ hP hQ
        go_wp2
        go_roundw
        case rel => exact ⟨k + 1, p, q + 1, by omega, by omega, by omega, by go_num, by go_num, by go_num, HE, HF, hbel⟩
        case measure => simp [intOf]; omega
      · have g1 : ¬ y ≤ (fr : Int) := fun h => ha (hyi.1 h)
        have g2 : ¬ (fr : Int) + (d : Int) ≤ z := fun h => hb_ (hzi.1 (by omega))
        have HE : Hid (p = min (k + 1) bf) := by have := hP.out; show _ = _; omega
        have HF : Hid (q = k + 1 - (g.length - bh)) := by have := hQ.out; show _ = _; omega
        clear hyi hzi ha hb_ hP hQ
        go_wp2
        go_roundw
        case rel => exact ⟨k + 1, p, q, by omega, by omega, by omega, by go_num, by go_num, by go_num, HE, HF, hbel⟩
        case measure => simp [intOf]; omega
    · have h1 : ¬ (k : Int) < (g.length : Int) := by omega
      have hpe : p = bf := by have := hP.out; omega
      have hqe : q = bh := by have := hQ.out; omega
      subst hpe hqe
      have rb1 := rb.next hbel
      have q1 := fun W => run_cut_h (P := Tryd.prog) (w := W) 29 5 Tryd.underlying29 j8 J8.out.1 A2 b.length c2 fr (fr : Int) rfl (by omega)
      have q2 := fun W => run_cut_l (P := Tryd.prog) (w := W) 29 5 Tryd.underlying29 j8 J8.out.1 J8.out.2 A2 b.length c2 (fr + d) ((fr : Int) + (d : Int)) (by omega) (by omega)
      have zt : (b.take fr).length = fr := by rw [List.length_take]; omega
      have ZT := Lib.hid zt
      have rt := rb1.take fr
      have rd := rb1.drop c2 (fr + d) kb
      have zd : (b.drop (fr + d)).length = b.length - (fr + d) := List.length_drop
      have ZD := Lib.hid zd
      clear hP hQ hlt zt zd
      rcases (by omega : d = 0 ∨ 0 < d) with hd0 | hd0
      · have h2 : ((fr : Int) == (fr : Int) + (d : Int)) = true := by simp only [beq_iff_eq]; omega
        obtain ⟨bb, hbb, hbb2⟩ : ∃ n : Nat, (g.length : Int) - (p : Int) = (n : Int) ∧ n ≤ 1048576 := ⟨g.length - p, by omega, by omega⟩
        have HBH : Hid (bb = if fr = fr + d then g.length - p else q) := by show _ = _; rw [if_pos (by omega)]; omega
        clear hd0
        go_wp2_with fail
        go_cut [15, 16] from 81 to 92 (fun v15 v16 wx => ∃ (A6 : Option Addr) (c6 : Nat) (A8 : Option Addr) (c8 : Nat) (rs ss : List Int), Hid (rs = runes8 (b.take fr ++ b.drop (fr + d))) ∧ Hid (ss = sizes8 (b.take fr ++ b.drop (fr + d))) ∧ v15 = .slice A6 rs.length c6 ∧ v16 = .slice A8 ss.length c8 ∧ Own wx wr.heap.size 21 .i32 (.slice A6 rs.length c6) rs ∧ Own wx wr.heap.size 3 .i64 (.slice A8 ss.length c8) ss ∧ Below wr.heap.size wr wx)
        case first =>
          go_region_law (first
            | (refine step_appRd rfl (.tmp 85) (.tmp 88) 29 rfl wr.heap.size 5 .u8 1 Tryd.underlying29 info_u8 (c2 - (fr + d)) (rd.next L5) _ ZD.out o5 (by rfl) (by rfl) hq1 hq2 L5.size ?_; intro A6 c6 m1 w6 hm1 o6 g6; have L6 := L5.trans (g6.below_ o5 L5.size); have k6 := o6.len.2; have zm1 : m1.length ≤ 4194304 := (by rw [hm1.out, List.length_append, ht5.out, ZT.out, ZD.out]; omega); have ym : Bytes m1 := (by rw [hm1.out, ht5.out]; exact (BY.out.take _).app (BY.out.drop _)); have YM := Lib.hid ym; clear ym)
            | (go_simp; go_at_call 22; refine (copied_q (w := wr.drew) rt.drew ZT.out (by rw [ZT.out]; omega)).mono ?_; rintro e w5 ⟨A5, c5, t5, ht5, rfl, o5', l5'⟩; have o5 : Own w5 wr.heap.size 5 .u8 (.slice A5 t5.length c5) t5 := o5'; have L5 := below_drew l5'; have hq1 : (t5.length + (b.drop (fr + d)).length) * 1 ≤ 140737488355328 := (by rw [ht5.out, ZT.out, ZD.out]; omega); have hq2 : t5.length + (b.drop (fr + d)).length ≤ maxLen := (by unfold maxLen; rw [ht5.out, ZT.out, ZD.out]; omega))
            | (go_simp; go_at_call 21; refine (decodeBytes_any o6.rd YM.out (hT.next (bnext (bnext l04 hbel) L6)) k6 (by omega)).mono ?_; rintro e w7 ⟨A7, c7, A8, c8, rs, ss, hrs, hss, rfl, o7, o8, l7⟩; have HRS : Hid (rs = runes8 (b.take fr ++ b.drop (fr + d))) := (by show _ = _; rw [hrs.out, hm1.out, ht5.out]); have HSS : Hid (ss = sizes8 (b.take fr ++ b.drop (fr + d))) := (by show _ = _; rw [hss.out, hm1.out, ht5.out]); have L7 := L6.trans (l7.mono L6.size); have o7' := o7.lower L6.size; have o8' := o8.lower L6.size))
          all_goals (try go_wp2_with fail)
          all_goals go_meet
          all_goals exact ⟨A7, c7, A8, c8, rs, ss, HRS, HSS, rfl, rfl, o7', o8', L7⟩
        case rest =>
          obtain ⟨A6, c6, A8, c8, rs, ss, hrs, hss, rfl, rfl, o8, o9, L7⟩ := hcut
          obtain ⟨f1, f2, f3, f4⟩ := I5.out rs hrs.out bb HBH.out
          have F3 := Lib.hid f3
          have F4 := Lib.hid f4
          have zss : ss.length = rs.length := by rw [hss.out, hrs.out, sizes8_len, runes8_len]
          have t5 : ((ss.length : Int) != (rs.length : Int)) = false := by simp only [bne_eq_false_iff_eq]; omega
          have k8 := o8.len.2
          have rg6 := rg.next (bnext hbel L7)
          have C1 := Lib.hid (sameRunes_at (c := c6) (c' := c1) (n := p) (m := p) ((o8.rd).take p) (rg6.take p) (by rw [List.length_take]; omega) (by rw [List.length_take]; omega) (by omega) F3.out)
          have C2 := Lib.hid (sameRunes_at (c := c6 - (rs.length - bb)) (c' := c1 - (g.length - bb)) (n := rs.length - (rs.length - bb)) (m := g.length - (g.length - bb)) ((o8.rd).drop c6 (rs.length - bb) k8) (rg6.drop c1 (g.length - bb) kg) (by rw [List.length_drop]) (by rw [List.length_drop]) (by omega) F4.out)
          have q1 := fun W => run_cut_h (P := Tryd.prog) (w := W) 22 21 Tryd.underlying22 j32 J32.out.1 A6 rs.length c6 p (p : Int) rfl (by omega)
          have q2 := fun W => run_cut_h (P := Tryd.prog) (w := W) 22 21 Tryd.underlying22 j32 J32.out.1 A1 g.length c1 p (p : Int) rfl (by omega)
          have q3 := fun W => run_cut_l (P := Tryd.prog) (w := W) 22 21 Tryd.underlying22 j32 J32.out.1 J32.out.2 A6 rs.length c6 (rs.length - bb) ((rs.length : Int) - (bb : Int)) (by omega) (by omega)
          have q4 := fun W => run_cut_l (P := Tryd.prog) (w := W) 22 21 Tryd.underlying22 j32 J32.out.1 J32.out.2 A1 g.length c1 (g.length - bb) ((g.length : Int) - (bb : Int)) (by omega) (by omega)
          have v1 : IntKind.i64.wrap ((rs.length : Int) - (bb : Int)) = (rs.length : Int) - (bb : Int) := IntWalk.i64_in _ (by omega)
          clear hbb
          have v2 : IntKind.i64.wrap ((g.length : Int) - (bb : Int)) = (g.length : Int) - (bb : Int) := IntWalk.i64_in _ (by omega)
          have l06 := bnext l04 (bnext hbel L7)
          clear o8 o9 L7 f3 f4 zss rg6 hrs hss rt rd rb1
          go_wp2
          go_quiet ((go_at_call 17; first | (with_reducible exact quiet_at (C1.out _)) | (with_reducible exact quiet_at (C2.out _))))
          go_wp2
          go_ret
          exact ⟨rfl, bdrewN l06 _⟩
      · have h2 : ((fr : Int) == (fr : Int) + (d : Int)) = false := by simp only [beq_eq_false_iff_ne, ne_eq]; omega
        have HBH : Hid (q = if fr = fr + d then g.length - p else q) := by show _ = _; rw [if_neg (by omega)]
        clear hd0
        go_wp2_with fail
        go_cut [15, 16] from 81 to 92 (fun v15 v16 wx => ∃ (A6 : Option Addr) (c6 : Nat) (A8 : Option Addr) (c8 : Nat) (rs ss : List Int), Hid (rs = runes8 (b.take fr ++ b.drop (fr + d))) ∧ Hid (ss = sizes8 (b.take fr ++ b.drop (fr + d))) ∧ v15 = .slice A6 rs.length c6 ∧ v16 = .slice A8 ss.length c8 ∧ Own wx wr.heap.size 21 .i32 (.slice A6 rs.length c6) rs ∧ Own wx wr.heap.size 3 .i64 (.slice A8 ss.length c8) ss ∧ Below wr.heap.size wr wx)
        case first =>
          go_region_law (first
            | (refine step_appRd rfl (.tmp 85) (.tmp 88) 29 rfl wr.heap.size 5 .u8 1 Tryd.underlying29 info_u8 (c2 - (fr + d)) (rd.next L5) _ ZD.out o5 (by rfl) (by rfl) hq1 hq2 L5.size ?_; intro A6 c6 m1 w6 hm1 o6 g6; have L6 := L5.trans (g6.below_ o5 L5.size); have k6 := o6.len.2; have zm1 : m1.length ≤ 4194304 := (by rw [hm1.out, List.length_append, ht5.out, ZT.out, ZD.out]; omega); have ym : Bytes m1 := (by rw [hm1.out, ht5.out]; exact (BY.out.take _).app (BY.out.drop _)); have YM := Lib.hid ym; clear ym)
            | (go_simp; go_at_call 22; refine (copied_q (w := wr.drew) rt.drew ZT.out (by rw [ZT.out]; omega)).mono ?_; rintro e w5 ⟨A5, c5, t5, ht5, rfl, o5', l5'⟩; have o5 : Own w5 wr.heap.size 5 .u8 (.slice A5 t5.length c5) t5 := o5'; have L5 := below_drew l5'; have hq1 : (t5.length + (b.drop (fr + d)).length) * 1 ≤ 140737488355328 := (by rw [ht5.out, ZT.out, ZD.out]; omega); have hq2 : t5.length + (b.drop (fr + d)).length ≤ maxLen := (by unfold maxLen; rw [ht5.out, ZT.out, ZD.out]; omega))
            | (go_simp; go_at_call 21; refine (decodeBytes_any o6.rd YM.out (hT.next (bnext (bnext l04 hbel) L6)) k6 (by omega)).mono ?_; rintro e w7 ⟨A7, c7, A8, c8, rs, ss, hrs, hss, rfl, o7, o8, l7⟩; have HRS : Hid (rs = runes8 (b.take fr ++ b.drop (fr + d))) := (by show _ = _; rw [hrs.out, hm1.out, ht5.out]); have HSS : Hid (ss = sizes8 (b.take fr ++ b.drop (fr + d))) := (by show _ = _; rw [hss.out, hm1.out, ht5.out]); have L7 := L6.trans (l7.mono L6.size); have o7' := o7.lower L6.size; have o8' := o8.lower L6.size))
          all_goals (try go_wp2_with fail)
          all_goals go_meet
          all_goals exact ⟨A7, c7, A8, c8, rs, ss, HRS, HSS, rfl, rfl, o7', o8', L7⟩
        case rest =>
          obtain ⟨A6, c6, A8, c8, rs, ss, hrs, hss, rfl, rfl, o8, o9, L7⟩ := hcut
          obtain ⟨f1, f2, f3, f4⟩ := I5.out rs hrs.out q HBH.out
          have F3 := Lib.hid f3
          have F4 := Lib.hid f4
          have zss : ss.length = rs.length := by rw [hss.out, hrs.out, sizes8_len, runes8_len]
          have t5 : ((ss.length : Int) != (rs.length : Int)) = false := by simp only [bne_eq_false_iff_eq]; omega
          have k8 := o8.len.2
          have rg6 := rg.next (bnext hbel L7)
          have C1 := Lib.hid (sameRunes_at (c := c6) (c' := c1) (n := p) (m := p) ((o8.rd).take p) (rg6.take p) (by rw [List.length_take]; omega) (by rw [List.length_take]; omega) (by omega) F3.out)
          have C2 := Lib.hid (sameRunes_at (c := c6 - (rs.length - q)) (c' := c1 - (g.length - q)) (n := rs.length - (rs.length - q)) (m := g.length - (g.length - q)) ((o8.rd).drop c6 (rs.length - q) k8) (rg6.drop c1 (g.length - q) kg) (by rw [List.length_drop]) (by rw [List.length_drop]) (by omega) F4.out)
          have q1 := fun W => run_cut_h (P := Tryd.prog) (w := W) 22 21 Tryd.underlying22 j32 J32.out.1 A6 rs.length c6 p (p : Int) rfl (by omega)
          have q2 := fun W => run_cut_h (P := Tryd.prog) (w := W) 22 21 Tryd.underlying22 j32 J32.out.1 A1 g.length c1 p (p : Int) rfl (by omega)
          have q3 := fun W => run_cut_l (P := Tryd.prog) (w := W) 22 21 Tryd.underlying22 j32 J32.out.1 J32.out.2 A6 rs.length c6 (rs.length - q) ((rs.length : Int) - (q : Int)) (by omega) (by omega)
          have q4 := fun W => run_cut_l (P := Tryd.prog) (w := W) 22 21 Tryd.underlying22 j32 J32.out.1 J32.out.2 A1 g.length c1 (g.length - q) ((g.length : Int) - (q : Int)) (by omega) (by omega)
          have v1 : IntKind.i64.wrap ((rs.length : Int) - (q : Int)) = (rs.length : Int) - (q : Int) := IntWalk.i64_in _ (by omega)
          have v2 : IntKind.i64.wrap ((g.length : Int) - (q : Int)) = (g.length : Int) - (q : Int) := IntWalk.i64_in _ (by omega)
          have l06 := bnext l04 (bnext hbel L7)
          clear o8 o9 L7 f3 f4 zss rg6 hrs hss rt rd rb1
          go_wp2
          go_quiet ((go_at_call 17; first | (with_reducible exact quiet_at (C1.out _)) | (with_reducible exact quiet_at (C2.out _))))
          go_wp2
          go_ret
          exact ⟨rfl, bdrewN l06 _⟩
end Go.Proofs.YtcbfbccmghdpgaaDoor
