/- FnFromAnywhere: the walk. -/
import Derived.Test.YtcbfbccmghdpgaaDoorFrom
import Derived.Test.YtcbfbccmghdpgaaDoorQuiet
import Derived.Test.YtcbfbccmghdpgaaDoorBytes
import Derived.BigQuiet
set_option linter.unusedVariables false
namespace Go.Proofs.YtcbfbccmghdpgaaDoor
open Go.RowKit P

theorem copied_m {A : Option Addr} {bs : List Int} {c n : Nat} {w : World} (hb : Rd w .u8 A bs) (hn : bs.length = n) (hl : bs.length ≤ 140737488355328) :
    Calls Tryd.prog 22 #[.slice A n c] w (Made w 5 .u8 bs) := by
  subst hn; exact copied_any hb hl

theorem sameRunes_cut {A A' : Option Addr} {xs ys : List Int} {c c' lo lo' : Nat} {W : World} (hx : Rd W .i32 A xs) (hy : Rd W .i32 A' ys) (hc : xs.length ≤ c) (hc' : ys.length ≤ c') (hl : xs.length ≤ 1048576) (h : xs.drop lo = ys.drop lo') (n : Nat) :
    Calls Tryd.prog 17 #[.slice (cutA A c lo) (xs.length - lo) (c - lo), .slice (cutA A' c' lo') (ys.length - lo') (c' - lo')] (W.drewN n) fun e w' => e = .returned (.bool true) ∧ ∃ m, w' = (W.drewN n).drewN m := by
  have h1 := sameRunes_n (n := xs.length - lo) (m := ys.length - lo') (c := c - lo) (c' := c' - lo') ((hx.drop c lo hc).drewN n) ((hy.drop c' lo' hc').drewN n) (by rw [List.length_drop]) (by rw [List.length_drop]) (by omega)
  rw [h] at h1
  simpa using h1
theorem sameSizes_cut {A A' : Option Addr} {xs ys : List Int} {c c' lo lo' : Nat} {W : World} (hx : Rd W .i64 A xs) (hy : Rd W .i64 A' ys) (hc : xs.length ≤ c) (hc' : ys.length ≤ c') (hl : xs.length ≤ 1048576) (h : xs.drop lo = ys.drop lo') (n : Nat) :
    Calls Tryd.prog 26 #[.slice (cutA A c lo) (xs.length - lo) (c - lo), .slice (cutA A' c' lo') (ys.length - lo') (c' - lo')] (W.drewN n) fun e w' => e = .returned (.bool true) ∧ ∃ m, w' = (W.drewN n).drewN m := by
  have h1 := sameSizes_n (n := xs.length - lo) (m := ys.length - lo') (c := c - lo) (c' := c' - lo') ((hx.drop c lo hc).drewN n) ((hy.drop c' lo' hc').drewN n) (by rw [List.length_drop]) (by rw [List.length_drop]) (by omega)
  rw [h] at h1
  simpa using h1

set_option maxRecDepth 100000 in
set_option maxHeartbeats 1000000 in
theorem fromAnywhere_walk {A : Option Addr} {l : List Int} {c : Nat} {kk : Int} {w : World} (hr : Rd w .u8 A l) (hb : Bytes l) (hT : Tabs w) (hcap : l.length ≤ c) (hl : l.length ≤ 1048576) :
    Calls Tryd.prog 4 #[.slice A l.length c, .int .i64 kk] w fun e w' => e = .returned (.bool true) ∧ Below w.heap.size w w' := by
  obtain ⟨j8, hj8, _, hs8, _⟩ := info_parts info_u8
  obtain ⟨j32, hj32, _, hs32, _⟩ := info_parts info_i32
  obtain ⟨ji, hji, _, hsi, _⟩ := info_parts info_int
  have J8 := Lib.hid (And.intro hj8 hs8)
  have J32 := Lib.hid (And.intro hj32 hs32)
  have JI := Lib.hid (And.intro hji hsi)
  clear hj8 hs8 hj32 hs32 hji hsi
  go_enter Tryd.func4, Tryd.ntmps4
  go_wp2_with fail
  refine (copied_any hr (by omega)).mono ?_
  rintro e w1 ⟨A1, c1, b1, hb1, rfl, o1, l1⟩
  have z1 : b1.length ≤ 1048576 := by rw [hb1.out]; exact hl
  have by1 : Bytes b1 := by rw [hb1.out]; exact hb
  have BY1 := Lib.hid by1
  clear by1
  go_wp2_with fail
  refine (decodeBytes_any o1.rd BY1.out (hT.next l1) o1.len.2 (by omega)).mono ?_
  rintro e w2 ⟨A2, c2, A3, c3, rs, ss, hrs, hss, rfl, o2, o3, l2⟩
  have zr : rs.length ≤ 1048576 := by rw [hrs.out, runes8_len]; have := decs_le b1; omega
  have zs : ss.length ≤ 1048576 := by rw [hss.out, sizes8_len]; have := decs_le b1; omega
  go_wp2_with fail
  refine (endsOf_any o3.rd (sizes8_bounds BY1.out hss.out) (by omega)).mono ?_
  rintro e w3 ⟨A4, c4, en, hen, rfl, o4, l3⟩
  go_wp2_with fail
  refine (placeIn_any kk l.length (by omega) (by omega) _).mono ?_
  rintro e w0 ⟨at_, hat, rfl, rfl⟩
  have hat' : at_ ≤ l.length := by omega
  have hcr := fun W => run_cut_l (P := Tryd.prog) (w := W) 29 5 Tryd.underlying29 j8 J8.out.1 J8.out.2 A l.length c at_ at_ rfl (by omega)
  have l03 := bnext (bnext l1 l2) l3
  go_wp2_with fail
  refine (copied_m ((hr.next l03).drop c at_ hcap) (by rw [List.length_drop]) (by rw [List.length_drop]; omega)).mono ?_
  rintro e w4 ⟨A5, c5, b2, hb2, rfl, o5, l4⟩
  have z2 : b2.length ≤ 1048576 := by rw [hb2.out, List.length_drop]; omega
  have by2 : Bytes b2 := by rw [hb2.out]; exact hb.drop _
  have BY2 := Lib.hid by2
  clear by2 hcr
  go_wp2_with fail
  refine (decodeBytes_any o5.rd BY2.out (hT.next (bnext l03 l4)) o5.len.2 (by omega)).mono ?_
  rintro e w5 ⟨A6, c6, A7, c7, rt, st, hrt, hst, rfl, o6, o7, l5⟩
  have zrt : rt.length ≤ 1048576 := by rw [hrt.out, runes8_len]; have := decs_le b2; omega
  have zst : st.length ≤ 1048576 := by rw [hst.out, sizes8_len]; have := decs_le b2; omega
  obtain ⟨lost, i, f1, f2, f3, f4, f5, f6, f7, f8, f9, f10, f11, f12, f13, f14⟩ := from_facts hb hat' hen.out (hrs.out.trans (by rw [hb1.out])) (hss.out.trans (by rw [hb1.out])) (hrt.out.trans (by rw [hb2.out])) (hst.out.trans (by rw [hb2.out]))
  have F7 := Lib.hid f7
  have F8 := Lib.hid f8
  have F9 := Lib.hid f9
  have F10 := Lib.hid f10
  have F11 := Lib.hid f11
  have F12 := Lib.hid f12
  have F13 := Lib.hid f13
  have l45 := bnext l4 l5
  have rrs := (o2.next (bnext l3 l45)).rd
  have rss := (o3.next (bnext l3 l45)).rd
  have ren := (o4.next l45).rd
  have rrt := o6.rd
  have rst := o7.rd
  have k2 := o2.len.2
  have k3 := o3.len.2
  have k6 := o6.len.2
  have k7 := o7.len.2
  have l05 := bnext l03 l45
  have zen : en.length ≤ 1048577 := by rw [hen.out, List.length_cons, ends_length]; omega
  have t1 : ((rs.length : Int) != (ss.length : Int)) = false := by simp only [bne_eq_false_iff_eq]; rw [hrs.out, hss.out, runes8_len, sizes8_len]
  have t2 : ((rt.length : Int) != (st.length : Int)) = false := by simp only [bne_eq_false_iff_eq]; rw [hrt.out, hst.out, runes8_len, sizes8_len]
  obtain ⟨be, offe, ye, hAe, hbe, hye, hce⟩ := ren.at_ (i := en.length - 1) (by omega)
  subst hAe
  have hye2 : ye = (l.length : Int) := by rw [f14] at hye; injection hye with hye; exact hye.symm
  subst hye2
  have t3 : ((l.length : Int) != (l.length : Int)) = false := by simp
  have ie : (1 : Int) ≤ (en.length : Int) := by omega
  clear f7 f8 f9 f10 f11 f12 f13 f14 hye o1 o2 o3 o4 o5 o6 o7 l1 l2 l3 l4 l5 l45 l03 hr hrs hss hen hrt hst hb1 hb2 BY1 BY2 z1 z2
  go_wp2
  go_loopw [8, 11] (fun v8 v11 wr => ∃ j : Nat, j ≤ lost ∧ v8 = .int .i64 ((at_ : Int) + j) ∧ v11 = .int .i64 j ∧ Below w5.heap.size w5 wr) (fun _ v11 _ => lost - (intOf v11).toNat)
  case atStart => exact ⟨0, Nat.zero_le _, by simp, rfl, Below.refl _ _⟩
  case round =>
    obtain ⟨j, hj, rfl, rfl, hbel⟩ := hrel
    by_cases hlt : j < lost
    · obtain ⟨ba, oa, xa, hAa, hba, hxa, hca⟩ := (rrt.next hbel).at_ (i := j) (by omega)
      obtain ⟨bs, os, xs, hAs, hbs, hxs, hcs⟩ := (rst.next hbel).at_ (i := j) (by omega)
      subst hAa hAs
      obtain ⟨g1, g2⟩ := F11.out j hlt
      rw [g1] at hxa; injection hxa with hxa
      rw [g2] at hxs; injection hxs with hxs
      subst hxa hxs
      clear g1 g2
      have HM := Lib.hid (F8.out j hlt)
      have u1 : ((j : Int) == 3) = false := by simp only [beq_eq_false_iff_ne, ne_eq]; omega
      have u2 : ((j : Int) == (rt.length : Int)) = false := by simp only [beq_eq_false_iff_ne, ne_eq]; omega
      have u3 : (j : Int) < (rt.length : Int) := by omega
      have u4 : (j : Int) < (st.length : Int) := by omega
      have u5 : (0 : Int) ≤ (j : Int) := by omega
      go_wp2_with (go_at_call 25; refine (isEnd_any (ren.next hbel) _ (by omega)).mono ?_; rw [HM.out]; rintro e w' ⟨rfl, rfl⟩)
      go_roundw
      case rel => exact ⟨j + 1, by omega, by go_num, by go_num, hbel⟩
      case measure => simp [intOf]; omega
    · have hjl : j = lost := by omega
      subst hjl
      have HM := Lib.hid F9.out
      go_wp2_with (go_at_call 25; refine (isEnd_any (ren.next hbel) _ (by omega)).mono ?_; rw [HM.out]; rintro e w' ⟨rfl, rfl⟩)
      go_loopw [12] (fun v12 wr => ∃ k : Nat, k ≤ i ∧ v12 = .int .i64 k ∧ Below w5.heap.size w5 wr) (fun v12 _ => i - (intOf v12).toNat)
      case atStart => exact ⟨0, Nat.zero_le _, rfl, hbel⟩
      case round =>
        rename_i wr2 _
        obtain ⟨k, hk, rfl, hbel2⟩ := hrel
        obtain ⟨b3, o3, x3, hA3, hb3, hx3, hc3⟩ := (ren.next hbel2).at_ (i := k) (by omega)
        injection hA3 with hA3
        injection hA3 with hq1 hq2
        subst hq1 hq2
        have v1 : (k : Int) < (en.length : Int) := by omega
        have v2 : (0 : Int) ≤ (k : Int) := by omega
        by_cases hlt2 : k < i
        · have v3 : (x3 != (at_ : Int) + j) = true := by simp only [bne_iff_ne, ne_eq]; exact F10.out k hlt2 x3 hx3
          clear hx3
          go_wp2
          go_roundw
          case rel => exact ⟨k + 1, by omega, by go_num, hbel2⟩
          case measure => simp [intOf]; omega
        · have hki : k = i := by omega
          subst hki
          have v3 : (x3 != (at_ : Int) + j) = false := by
            simp only [bne_eq_false_iff_eq]
            have h7 := F7.out
            rw [hx3] at h7; injection h7
          clear hx3
          have C1 := Lib.hid (sameRunes_cut (rrt.next hbel2) (rrs.next hbel2) k6 k2 zrt F12.out)
          have C2 := Lib.hid (sameSizes_cut (rst.next hbel2) (rss.next hbel2) k7 k3 zst F13.out)
          have q1 := fun W => run_cut_l (P := Tryd.prog) (w := W) 22 21 Tryd.underlying22 j32 J32.out.1 J32.out.2 A6 rt.length c6 j j rfl (by omega)
          have q2 := fun W => run_cut_l (P := Tryd.prog) (w := W) 22 21 Tryd.underlying22 j32 J32.out.1 J32.out.2 A2 rs.length c2 k k rfl (by omega)
          have q3 := fun W => run_cut_l (P := Tryd.prog) (w := W) 33 3 Tryd.underlying33 ji JI.out.1 JI.out.2 A7 st.length c7 j j rfl (by omega)
          have q4 := fun W => run_cut_l (P := Tryd.prog) (w := W) 33 3 Tryd.underlying33 ji JI.out.1 JI.out.2 A3 ss.length c3 k k rfl (by omega)
          go_wp2
          go_quiet (first
            | (go_at_call 17; with_reducible exact quiet_at (C1.out _))
            | (go_at_call 26; with_reducible exact quiet_at (C2.out _)))
          go_wp2
          go_ret
          exact ⟨rfl, bdrewN (bnext l05 hbel2) _⟩
end Go.Proofs.YtcbfbccmghdpgaaDoor
