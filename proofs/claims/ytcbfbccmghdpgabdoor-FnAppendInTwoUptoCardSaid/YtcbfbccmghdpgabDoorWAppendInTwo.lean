/- FnAppendInTwo: the walk. -/
import Derived.Test.YtcbfbccmghdpgabDoorWBackwardsAcross
import Derived.Test.YtcbfbccmghdpgabDoorQuiet
set_option linter.unusedVariables false
namespace Go.Proofs.YtcbfbccmghdpgabDoor
open Go.RowKit P

theorem appendBytes_q {A A' : Option Addr} {bs rs : List Int} {c c' m : Nat} {w : World} (hb : Rd w .u8 A bs) (hr : Rd w .i32 A' rs) (hm : rs.length = m) (hi : I32 rs) (hl : bs.length + 4 * rs.length ≤ 140737488355328) :
    Calls Tryd.prog 18 #[.slice A bs.length c, .slice A' m c'] w (Made w 5 .u8 (bs ++ encs rs)) := by
  subst hm; exact appendBytes_any hb hr hi hl
theorem I32.take_ {xs : List Int} (h : I32 xs) (n : Nat) : I32 (xs.take n) := fun x hx => h x (List.mem_of_mem_take hx)
theorem I32.drop_ {xs : List Int} (h : I32 xs) (n : Nat) : I32 (xs.drop n) := fun x hx => h x (List.mem_of_mem_drop hx)

set_option maxRecDepth 100000 in
set_option maxHeartbeats 4000000 in
theorem appendInTwo_walk {A B : Option Addr} {fs xs : List Int} {c d : Nat} {kk : Int} {w : World} (hf : Rd w .i32 A fs) (if_ : I32 fs) (lf : fs.length ≤ 1048576) (hx : Rd w .i32 B xs) (ix : I32 xs) (lx : xs.length ≤ 1048576) (hT : Tabs w) :
    Calls Tryd.prog 4 #[.slice A fs.length c, .slice B xs.length d, .int .i64 kk] w fun e w' => e = .returned (.bool true) ∧ Below w.heap.size w w' := by
  obtain ⟨j32, hj32, _, hs32, _⟩ := info_parts info_i32
  obtain ⟨j8, hj8, _, hs8, _⟩ := info_parts info_u8
  have J32 := Lib.hid (And.intro hj32 hs32)
  have J8 := Lib.hid (And.intro hj8 hs8)
  clear hj32 hs32 hj8 hs8
  go_enter Tryd.func4, Tryd.ntmps4
  go_wp2_with fail
  refine (goodOnes_any hf (by omega)).mono ?_
  rintro e w1 ⟨A1, c1, gf, hgf, rfl, o1, l1⟩
  have zf : gf.length ≤ 1048576 := by rw [hgf.out]; have := filter_le fs; omega
  have igf := if_.good hgf.out
  have GF : Hid (∀ r ∈ gf, good r = true) := by show ∀ r ∈ gf, good r = true; rw [hgf.out]; exact good_filter fs
  go_wp2_with fail
  refine (appendNil_any o1.rd igf (by omega)).mono ?_
  rintro e w2 ⟨A2, c2, b, hb, rfl, o2, l2⟩
  have zb : b.length ≤ 4194304 := by rw [hb.out]; have := (encs_len gf).2; omega
  have l02 := bnext l1 l2
  go_wp2_with fail
  refine (goodOnes_any (hx.next l02) (by omega)).mono ?_
  rintro e w3 ⟨A3, c3, g, hg, rfl, o3, l3⟩
  have zg : g.length ≤ 1048576 := by rw [hg.out]; have := filter_le xs; omega
  have ig := ix.good hg.out
  have GG : Hid (∀ r ∈ g, good r = true) := by show ∀ r ∈ g, good r = true; rw [hg.out]; exact good_filter xs
  go_wp2_with fail
  refine (placeIn_any kk (g.length : Int) (by omega) (by omega) _).mono ?_
  rintro e w0 ⟨at_, hat, rfl, rfl⟩
  have hat' : at_ ≤ g.length := by omega
  have rb := (o2.next l3).rd
  have rg := o3.rd
  have kg := o3.len.2
  have l03 := bnext l02 l3
  have rf := hf.next l03
  have hT3 := hT.next l03
  have HB : Hid (b = encs gf) := hb
  have HGF : Hid (gf = fs.filter good) := hgf
  clear o1 o2 o3 l1 l2 l3 l02 hf hx hT hgf hg hb hat igf
  go_wp2_with fail
  refine (copied_any rb (by omega)).mono ?_
  rintro e w4 ⟨A4, c4, b4, hb4, rfl, o4, l4⟩
  go_wp2_with fail
  refine (appendBytes_any o4.rd (rg.next l4) ig (by rw [hb4.out]; omega)).mono ?_
  rintro e w5 ⟨A5, c5, al, hal, rfl, o5, l5⟩
  have HAL : Hid (al = b ++ encs g) := by show _ = _; rw [hal.out, hb4.out]
  have zal : al.length ≤ 8388608 := by rw [HAL.out, List.length_append]; have := (encs_len g).2; omega
  have zal2 : b.length ≤ al.length := by rw [HAL.out, List.length_append]; omega
  have l35 := bnext l4 l5
  have rb5 := rb.next l35
  have rg5 := rg.next l35
  have rf5 := rf.next l35
  have hT5 := hT3.next l35
  have l05 := bnext l03 l35
  have ral := o5.rd
  have kal := o5.len.2
  have q1 := fun W => run_cut_h (P := Tryd.prog) (w := W) 25 21 Tryd.underlying25 j32 J32.out.1 A3 g.length c3 at_ (at_ : Int) rfl (by omega)
  have q2 := fun W => run_cut_l (P := Tryd.prog) (w := W) 25 21 Tryd.underlying25 j32 J32.out.1 J32.out.2 A3 g.length c3 at_ (at_ : Int) rfl (by omega)
  have ZT : Hid ((g.take at_).length = at_) := by show _ = _; rw [List.length_take]; omega
  have ZD : Hid ((g.drop at_).length = g.length - at_) := List.length_drop
  have rt := rg5.take at_
  have rd := rg5.drop c3 at_ kg
  clear o4 o5 l4 l5 l35 hb4 hal rb rg rf hT3 l03
  go_wp2_with fail
  go_cut [11] from 31 to 40 (fun v11 wx => ∃ (A9 : Option Addr) (c9 : Nat) (tw : List Int), Hid (tw = b ++ encs g) ∧ v11 = .slice A9 tw.length c9 ∧ Own wx w5.heap.size 5 .u8 (.slice A9 tw.length c9) tw ∧ Below w5.heap.size w5 wx)
  case first =>
    go_region_law (first
      | (go_simp; go_at_call 18; refine (appendBytes_q o7.rd (rd.next L7) ZD.out (ig.drop_ _) hq3).mono ?_; rintro e w8 ⟨A8, c8, t8, ht8, rfl, o8, l8⟩; have L8 := L7.trans (l8.mono L7.size); have o8' := o8.lower L7.size)
      | (go_simp; go_at_call 18; refine (appendBytes_q o6.rd (rt.next L6) ZT.out (ig.take_ _) hq2).mono ?_; rintro e w7 ⟨A7, c7, t7, ht7, rfl, o7, l7⟩; have L7 := L6.trans (l7.mono L6.size); have zt7 : t7.length ≤ 8388608 := (by rw [ht7.out, ht6.out, List.length_append]; have := (encs_len (g.take at_)).2; rw [ZT.out] at this; omega); have hq3 : t7.length + 4 * (g.drop at_).length ≤ 140737488355328 := (by rw [ZD.out]; omega))
      | (go_simp; go_at_call 22; refine (copied_q (w := w5.drew) rb5.drew rfl (by omega)).mono ?_; rintro e w6 ⟨A6, c6, t6, ht6, rfl, o6, l6'⟩; have L6 := below_drew l6'; have hq2 : t6.length + 4 * (g.take at_).length ≤ 140737488355328 := (by rw [ht6.out, ZT.out]; omega)))
    all_goals
      have HT8 : Hid (t8 = b ++ encs g) := by show _ = _; rw [ht8.out, ht7.out, ht6.out, List.append_assoc, ← encs_append, List.take_append_drop]
    all_goals (try go_wp2_with fail)
    all_goals go_meet
    all_goals exact ⟨A8, c8, t8, HT8, rfl, o8', L8⟩
  case rest =>
    obtain ⟨A9, c9, tw, htw, rfl, o9, L9⟩ := hcut
    have HQ1 : Hid (decide (al = tw) = true) := by show _ = _; rw [HAL.out, htw.out]; simp
    have HQ2 : Hid (decide (al.take b.length = b) = true) := by show _ = _; rw [HAL.out]; simp
    have ral9 := ral.next L9
    have rb9 := rb5.next L9
    have rg9 := rg5.next L9
    have rf9 := rf5.next L9
    have hT9 := hT5.next L9
    have l09 := bnext l05 L9
    clear q1 q2 rt rd ral rb5 rg5 rf5 hT5 L9 l05 ZT ZD
    have k1 := fun W => run_cut_h (P := Tryd.prog) (w := W) 29 5 Tryd.underlying29 j8 J8.out.1 A5 al.length c5 b.length (b.length : Int) rfl (by omega)
    go_wp2_with fail
    refine (sameBytes_any ral9 o9.rd (by omega)).mono ?_
    rw [HQ1.out]
    rintro e w10 ⟨rfl, n10, rfl⟩
    have zta : (al.take b.length).length = b.length := by rw [List.length_take]; omega
    have ZTA := Lib.hid zta
    clear zta
    go_wp2_with fail
    refine (sameBytes_n ((ral9.drewN n10).take b.length) (rb9.drewN n10) ZTA.out rfl (by omega)).mono ?_
    rw [HQ2.out]
    rintro e w11 ⟨rfl, n11, rfl⟩
    have lw := bdrewN (bdrewN l09 n10) n11
    have raw := (ral9.drewN n10).drewN n11
    have rgw := (rg9.drewN n10).drewN n11
    have rfw := (rf9.drewN n10).drewN n11
    have hTw : Tabs ((wc.drewN n10).drewN n11) := hT9
    clear k1 ral9 rb9 rg9 rf9 hT9 l09 o9 HQ1 HQ2
    generalize (wc.drewN n10).drewN n11 = w12 at *
    have ya : Bytes al := by rw [HAL.out, HB.out]; exact (encs_bytes _).app (encs_bytes _)
    have YA := Lib.hid ya
    clear ya
    go_wp2_with fail
    refine (decodeBytes_any raw YA.out hTw kal (by omega)).mono ?_
    rintro e w13 ⟨A13, c13, A14, c14, rs, ss, hrs, hss, rfl, o13, o14, l13⟩
    have HRS : Hid (rs = gf ++ g) := by
      show _ = _
      rw [hrs.out, HAL.out, HB.out, ← encs_append, runes8_encs]
      intro r hr
      rcases List.mem_append.1 hr with h | h
      · exact GF.out r h
      · exact GG.out r h
    go_wp2_with fail
    refine (decodeBytesBack_any (raw.next l13) YA.out (hTw.next l13) kal (by omega)).mono ?_
    rintro e w14 ⟨A15, c15, A16, c16, bk, sk, hbk, hsk, rfl, o15, o16, l14⟩
    have HBK : Hid (bk = rs.reverse) := by show _ = _; rw [hbk.out, hrs.out]; rfl
    have zrs : Hid (rs.length = gf.length + g.length) := by show _ = _; rw [HRS.out, List.length_append]
    have zbk : Hid (bk.length = rs.length) := by show _ = _; rw [HBK.out, List.length_reverse]
    have zrs2 : rs.length ≤ 2097152 := by rw [zrs.out]; omega
    have zbk2 : bk.length ≤ 2097152 := by rw [zbk.out]; omega
    have l1314 := bnext l13 l14
    have rrs := (o13.next l14).rd
    have krs := o13.len.2
    have rbk := o15.rd
    clear o13 o14 o15 o16 l13 l14 hrs hss hbk hsk YA
    go_wp2_with fail
    refine (goodOnes_any (rfw.next l1314) (by omega)).mono ?_
    rintro e w15 ⟨A17, c17, gf2, hgf2, rfl, o17, l15⟩
    have zgf2 : Hid (gf2.length = gf.length) := by show _ = _; rw [hgf2.out, HGF.out]
    have t1 : ((rs.length : Int) != (gf2.length : Int) + (g.length : Int)) = false := by simp only [bne_eq_false_iff_eq]; rw [zrs.out, zgf2.out]; omega
    have zgf3 : gf2.length ≤ 1048576 := by rw [zgf2.out]; exact zf
    have t2 : ((bk.length : Int) != (rs.length : Int)) = false := by simp only [bne_eq_false_iff_eq]; rw [zbk.out]
    have l1315 := bnext l1314 l15
    have rrs5 := rrs.next l15
    have rbk5 := rbk.next l15
    have rg15 := rgw.next l1315
    have lw15 := bnext lw l1315
    clear o17 l15 l1314 l1315 rrs rbk rgw raw rfw lw hgf2
    go_wp2
    go_loopw [89] (fun v89 wr => ∃ k : Nat, k ≤ bk.length ∧ v89 = .int .i64 k ∧ Below w15.heap.size w15 wr) (fun v89 _ => bk.length - (intOf v89).toNat)
    case atStart => exact ⟨0, Nat.zero_le _, rfl, Below.refl _ _⟩
    case round =>
      obtain ⟨k, hk, rfl, hbel⟩ := hrel
      by_cases hlt : k < bk.length
      · obtain ⟨b1, off1, x, hA1, hb1, hx, hc1⟩ := (rbk5.next hbel).at_ hlt
        have hkr : k < rs.length := by rw [← zbk.out]; exact hlt
        obtain ⟨b2, off2, y, hA2, hb2, hy, hc2⟩ := (rrs5.next hbel).at_ (i := rs.length - 1 - k) (by omega)
        have hxy : x = y := by
          rw [HBK.out, List.getElem?_reverse hkr] at hx
          rw [hx] at hy; injection hy
        subst hxy hA1 hA2
        have h1 : (k : Int) < (bk.length : Int) := by omega
        have h2 : (0 : Int) ≤ (k : Int) := by omega
        have h3 : (0 : Int) ≤ (rs.length : Int) - 1 - (k : Int) := by omega
        have h4 : (rs.length : Int) - 1 - (k : Int) < (rs.length : Int) := by omega
        have h5 : ((rs.length : Int) - 1 - (k : Int)).toNat = rs.length - 1 - k := by omega
        have h6 : (x != x) = false := by simp
        clear hx hy
        go_wp2
        go_roundw
        case rel => exact ⟨k + 1, by omega, by go_num, hbel⟩
        case measure => simp [intOf]; omega
      · have h1 : ¬ (k : Int) < (bk.length : Int) := by omega
        have HQ3 : Hid (decide (rs.drop (rs.length - g.length) = g) = true) := by
          show _ = _
          rw [zrs.out, HRS.out, show gf.length + g.length - g.length = gf.length by omega]; simp
        have zdr : (rs.drop (rs.length - g.length)).length = rs.length - (rs.length - g.length) := List.length_drop
        have ZDR := Lib.hid zdr
        have zge : g.length ≤ rs.length := by rw [zrs.out]; omega
        have k1 := fun W => run_cut_l (P := Tryd.prog) (w := W) 25 21 Tryd.underlying25 j32 J32.out.1 J32.out.2 A13 rs.length c13 (rs.length - g.length) ((rs.length : Int) - (g.length : Int)) (by omega) (by omega)
        clear zdr
        go_wp2_with fail
        refine (sameRunes_n ((rrs5.next hbel).drop c13 (rs.length - g.length) krs) (rg15.next hbel) ZDR.out rfl (by omega)).mono ?_
        rw [HQ3.out]
        rintro e w16 ⟨rfl, n16, rfl⟩
        have l16 := bdrewN hbel n16
        generalize wr.drewN n16 = w16 at *
        go_wp2_with fail
        refine (appendNil_any (rs := [97]) (Rd.one w16 .i32 21 97) (fun x hx => by simp at hx; omega) (by simp)).mono ?_
        rintro e w17 ⟨A18, c18, a1, ha1, rfl, o18, l18⟩
        have za1 : a1.length = 1 := by rw [ha1.out]; rfl
        have t5 : ((a1.length : Int) == 1) = true := by simp only [beq_iff_eq]; omega
        have ZA := Lib.hid za1
        clear za1
        go_wp2
        go_ret
        exact ⟨rfl, bnext lw15 (bnext l16 (bnext ((Below.refl _ _).alloc (Nat.le_refl _) _) l18))⟩
end Go.Proofs.YtcbfbccmghdpgabDoor
