/- FnBothEnds: the walk. -/
import Derived.Test.YtbjigbhjnmcdgaaDoorPlainBoth
import Derived.Test.YtbjigbhjnmcdgaaDoorScriptStr
import Derived.Test.YtbjigbhjnmcdgaaDoorDoor
import Derived.Test.YtbjigbhjnmcdgaaDoorStr
set_option linter.unusedVariables false
namespace Go.Proofs.YtbjigbhjnmcdgaaDoor
open Go.RowKit P

/-- the turns that are taken -/
def turnsOf (ts : List Bool) (n : Nat) : List Bool := (List.range n).map fun i => ts.getD i false
theorem turnsOf_len (ts : List Bool) (n : Nat) : (turnsOf ts n).length = n := by simp [turnsOf]
theorem turnsOf_succ (ts : List Bool) (n : Nat) : turnsOf ts (n + 1) = turnsOf ts n ++ [ts.getD n false] := by simp [turnsOf, List.range_succ]

set_option maxRecDepth 100000 in
set_option maxHeartbeats 4000000 in
theorem bothEnds_walk {A B : Option Addr} {l : List Int} {ts : List Bool} {c d : Nat} {w : World} (hr : Rd w .u8 A l) (hb : Bytes l) (hcap : l.length ≤ c) (hl : l.length ≤ 1048576) (hB : RdB w B ts) (hlt : ts.length ≤ 1048576) (hT : Tabs w) :
    Calls Tryd.prog 3 #[.slice A l.length c, .slice B ts.length d] w fun e w' => e = .returned (.bool true) ∧ Below w.heap.size w w' := by
  have BY := Lib.hid hb
  clear hb
  go_enter Tryd.func3, Tryd.ntmps3
  go_wp2_with fail
  refine (copied_any hr (by omega)).mono ?_
  rintro e w1 ⟨A1, c1, b1, hb1, rfl, o1, l1⟩
  have yb1 : Bytes b1 := by rw [hb1.out]; exact BY.out
  have zb1 : b1.length ≤ 1048576 := by rw [hb1.out]; exact hl
  go_wp2_with fail
  refine (decodeBytes_any o1.rd yb1 (hT.next l1) o1.len.2 (by omega)).mono ?_
  rintro e w2 ⟨A2, c2, A3, c3, rs, ss, hrs, hss, rfl, o2, o3, l2⟩
  have l12 := bnext l1 l2
  have HRS : Hid (rs = runes8 l) := by show _ = _; rw [hrs.out, hb1.out]
  have HSS : Hid (ss = sizes8 l) := by show _ = _; rw [hss.out, hb1.out]
  have hds := decs_le l
  have ZR : Hid (rs.length = (decs l).length) := by show _ = _; rw [HRS.out, runes8_len]
  have ZS : Hid (ss.length = (decs l).length) := by show _ = _; rw [HSS.out, sizes8_len]
  have zr : rs.length ≤ 1048576 := by rw [ZR.out]; omega
  have zs : ss.length ≤ 1048576 := by rw [ZS.out]; omega
  have t1 : ((rs.length : Int) != (ss.length : Int)) = false := by simp only [bne_eq_false_iff_eq]; rw [ZR.out, ZS.out]
  have HSum : Hid (ss.sum = (l.length : Int)) := by show _ = _; rw [HSS.out]; exact sizes8_sum BY.out
  have h8 := sizes8_eight BY.out HSS.out
  have rr := o2.rd
  have rs_ := o3.rd
  have hr2 := hr.next l12
  have hB2 := hB.next l12
  have hT2 := hT.next l12
  clear o1 l1 l2 hr hB hT hrs hss hb1 yb1 zb1 hds
  go_wp2_with fail
  refine (summed_any rs_ h8 (by omega)).mono ?_
  rw [HSum.out]
  rintro e w' ⟨rfl, rfl⟩
  clear h8
  go_wp2
  go_loopw [7, 39] (fun v7 v39 wr => ∃ (k : Nat) (A7 : Option Addr) (c7 : Nat) (bk : List Bool), k ≤ rs.length ∧ bk.length ≤ k ∧ v39 = .int .i64 k ∧ v7 = .slice A7 bk.length c7 ∧ Hid (bk = turnsOf ts k) ∧ OwnB wr w2.heap.size 4 (.slice A7 bk.length c7) bk ∧ Below w2.heap.size w2 wr)
    (fun _ v39 _ => rs.length - (intOf v39).toNat)
  case atStart => exact ⟨0, _, 0, [], Nat.zero_le _, Nat.le_refl _, rfl, rfl, rfl, OwnB.empty _ _, (Below.refl _ _).alloc (Nat.le_refl _) _⟩
  case round =>
    obtain ⟨k, A7, c7, bk, hk, hbk, rfl, rfl, HBK, hown, hbel⟩ := hrel
    have hsz := hbel.size
    by_cases hkr : k < rs.length
    · have h1 : (k : Int) < (rs.length : Int) := by omega
      have hq1 : bk.length + 1 ≤ 140737488355328 := by omega
      by_cases hkt : k < ts.length
      · have h2 : (k : Int) < (ts.length : Int) := by omega
        obtain ⟨b1, off1, q, hA1, hb1, hq, hc1⟩ := (hB2.next hbel).at_ hkt
        subst hA1
        have HG : Hid (turnsOf ts (k + 1) = turnsOf ts k ++ [q]) := by show _ = _; rw [turnsOf_succ, List.getD_eq_getElem?_getD, hq]; rfl
        clear hq
        go_wp2_with (at_builtin; refine wpList_app1b wr rfl _ _ 23 rfl w2.heap.size 4 Tryd.underlying23 info_bool q hown rfl rfl hq1 hsz ?_; intro A8 c8 bk1 w3 he1 hown3 hg3)
        have hb3 := hg3.below_newB hown hsz
        have hz : bk1.length ≤ k + 1 := by rw [he1.out, List.length_append]; simp; omega
        have hfin := hbel.trans hb3
        clear hown hg3
        go_roundw
        case rel => exact ⟨k + 1, A8, c8, bk1, by omega, hz, by go_num, rfl, by show _ = _; rw [he1.out, HBK.out, HG.out], hown3, hfin⟩
        case measure => simp [intOf]; omega
      · have h2 : ¬ (k : Int) < (ts.length : Int) := by omega
        have HG : Hid (turnsOf ts (k + 1) = turnsOf ts k ++ [false]) := by show _ = _; rw [turnsOf_succ, List.getD_eq_getElem?_getD, List.getElem?_eq_none (by omega)]; rfl
        go_wp2_with (at_builtin; refine wpList_app1b wr rfl _ _ 23 rfl w2.heap.size 4 Tryd.underlying23 info_bool false hown rfl rfl hq1 hsz ?_; intro A8 c8 bk1 w3 he1 hown3 hg3)
        have hb3 := hg3.below_newB hown hsz
        have hz : bk1.length ≤ k + 1 := by rw [he1.out, List.length_append]; simp; omega
        have hfin := hbel.trans hb3
        clear hown hg3
        go_roundw
        case rel => exact ⟨k + 1, A8, c8, bk1, by omega, hz, by go_num, rfl, by show _ = _; rw [he1.out, HBK.out, HG.out], hown3, hfin⟩
        case measure => simp [intOf]; omega
    · have h1 : ¬ (k : Int) < (rs.length : Int) := by omega
      have hke : k = rs.length := by omega
      have ZB : Hid (bk.length = (decs l).length) := by show _ = _; rw [HBK.out, turnsOf_len, hke, ZR.out]
      have zb : bk.length ≤ 1048576 := by omega
      have rb := hown.rd
      have hr3 := hr2.next hbel
      have hT3 := hT2.next hbel
      have rr3 := rr.next hbel
      have rs3 := rs_.next hbel
      have l13 := bnext l12 hbel
      clear hke HBK hown hr2 hB2 hT2 rr rs_ o2 o3 hbel l12 hsz
      go_wp2_with fail
      refine (copied_any hr3 (by omega)).mono ?_
      rintro e w4 ⟨A4, c4, b4, hb4, rfl, o4, l4⟩
      have yb4 : Bytes b4 := by rw [hb4.out]; exact BY.out
      have zb4 : b4.length ≤ 1048576 := by rw [hb4.out]; exact hl
      go_wp2_with fail
      refine (decodeScript_any o4.rd yb4 (hT3.next l4) o4.len.2 o4.lies (by omega) (rb.next l4) (by omega)).mono ?_
      rintro e w5 ⟨A5, c5, A6, c6, g5, g6, hg5, hg6, rfl, o5, o6, l5⟩
      have l35 := bnext l4 l5
      have HG5 : Hid (g5 = (script l bk).map (·.1)) := by show _ = _; rw [hg5.out, hb4.out]
      have HG6 : Hid (g6 = (script l bk).map fun x => (x.2 : Int)) := by show _ = _; rw [hg6.out, hb4.out]
      have hstr := run_str (c := c) (hr3.next l35) rfl
      obtain ⟨str, hstr0⟩ : ∃ str, strOfNums l = str := ⟨_, rfl⟩
      rw [hstr0] at hstr
      have HSTR : Hid (str = ofInts l) := hstr0.symm
      have HDS := Lib.hid (decodeStringScript_any (w := w5) (d := c7) BY.out (hT3.next l35) (by omega) (rb.next l35) (by omega))
      rw [← HSTR.out] at HDS
      clear hstr0 o4 l4 l5 hg5 hg6 yb4 zb4 hb4
      go_wp2_with fail
      refine HDS.out.mono ?_
      rintro e w6 ⟨A8, c8, A9, c9, g8, g9, hg8, hg9, rfl, o8, o9, l6⟩
      have l36 := bnext l35 l6
      have ZG5 : Hid (g5.length = (decs l).length) := by show _ = _; rw [HG5.out, List.length_map, script_len, ZB.out]
      have ZG6 : Hid (g6.length = (decs l).length) := by show _ = _; rw [HG6.out, List.length_map, script_len, ZB.out]
      have zg5 : g5.length ≤ 1048576 := by rw [ZG5.out, ← ZR.out]; exact zr
      have zg6 : g6.length ≤ 1048576 := by rw [ZG6.out, ← ZR.out]; exact zr
      have t2 : ((g5.length : Int) != (rs.length : Int)) = false := by simp only [bne_eq_false_iff_eq]; rw [ZR.out, ZG5.out]
      have t3 : ((g6.length : Int) != (rs.length : Int)) = false := by simp only [bne_eq_false_iff_eq]; rw [ZR.out, ZG6.out]
      have Q1 : Hid (decide (g5 = g8) = true) := by show _ = _; rw [HG5.out, hg8.out]; simp
      have Q2 : Hid (decide (g6 = g9) = true) := by show _ = _; rw [HG6.out, hg9.out]; simp
      have r5 := (o5.next l6).rd
      have r6 := (o6.next l6).rd
      have rb6 := rb.next l36
      have rr6 := rr3.next l36
      have rs6 := rs3.next l36
      have l16 := bnext l13 l36
      clear l35 l36 l6 o5 o6 rb rr3 rs3 hr3 hT3 l13 hstr HDS
      go_wp2_with fail
      refine (sameRunes_any r5 o8.rd (by omega)).mono ?_
      rw [Q1.out]
      rintro e w7 ⟨rfl, n7, rfl⟩
      go_wp2_with fail
      refine (sameSizes_any (r6.drewN n7) (o9.rd.drewN n7) (by omega)).mono ?_
      rw [Q2.out]
      rintro e w8 ⟨rfl, n8, rfl⟩
      have l18 : Below w.heap.size w ((w6.drewN n7).drewN n8) := bdrewN (bdrewN l16 _) _
      have r58 := (r5.drewN n7).drewN n8
      have r68 := (r6.drewN n7).drewN n8
      have rb8 := (rb6.drewN n7).drewN n8
      have rr8 := (rr6.drewN n7).drewN n8
      have rs8 := (rs6.drewN n7).drewN n8
      clear r5 r6 rb6 rr6 rs6 o8 o9 hg8 hg9 Q1 Q2 l16
      generalize (w6.drewN n7).drewN n8 = w8 at *
      go_wp2
      go_loopw [13, 14, 99] (fun v13 v14 v99 wr => ∃ (k f : Nat), k ≤ bk.length ∧ f ≤ k ∧ v99 = .int .i64 k ∧ v13 = .int .i64 f ∧ v14 = .int .i64 ((f : Int) + (bk.length : Int) - (k : Int) - 1) ∧ Hid (Stands l bk k f) ∧ Below w8.heap.size w8 wr)
        (fun _ _ v99 _ => bk.length - (intOf v99).toNat)
      case atStart => exact ⟨0, 0, Nat.zero_le _, Nat.le_refl _, rfl, rfl, by rw [show (rs.length : Int) = (bk.length : Int) by rw [ZB.out, ZR.out]]; congr 1; omega, Stands.start BY.out bk, Below.refl _ _⟩
      case round =>
        obtain ⟨k, f, hk2, hfk, rfl, rfl, rfl, HST, hbel2⟩ := hrel
        by_cases hkb : k < bk.length
        · obtain ⟨b1, off1, q, hA1, hb1, hq, hc1⟩ := (rb8.next hbel2).at_ hkb
          subst hA1
          have h2 : (k : Int) < (bk.length : Int) := by omega
          have hkd : k < (decs l).length := by rw [← ZB.out]; exact hkb
          obtain ⟨b2, off2, x2, hA2, hb2, hx2, hc2⟩ := (r58.next hbel2).at_ (i := k) (by rw [ZG5.out]; exact hkd)
          obtain ⟨b3, off3, x3, hA3, hb3, hx3, hc3⟩ := (r68.next hbel2).at_ (i := k) (by rw [ZG6.out]; exact hkd)
          subst hA2 hA3
          have h3 : (k : Int) < (g5.length : Int) := by rw [ZG5.out]; omega
          have h4 : (k : Int) < (g6.length : Int) := by rw [ZG6.out]; omega
          cases q
          · obtain ⟨hS1, hS2⟩ := HST.out.front hq hkd hfk
            obtain ⟨b4, off4, x4, hA4, hb4, hx4, hc4⟩ := (rr8.next hbel2).at_ (i := f) (by rw [ZR.out]; omega)
            obtain ⟨b5, off5, x5, hA5, hb5, hx5, hc5⟩ := (rs8.next hbel2).at_ (i := f) (by rw [ZS.out]; omega)
            have e1 : x2 = x4 := by
              rw [HG5.out, List.getElem?_map, hS1] at hx2
              rw [HRS.out, runes8, List.getElem?_map, hx2] at hx4
              exact Option.some.inj hx4
            have e2 : x3 = x5 := by
              rw [HG6.out, List.getElem?_map, hS1] at hx3
              rw [HSS.out, sizes8, List.getElem?_map, hx3] at hx5
              exact Option.some.inj hx5
            subst hA4 hA5 e1 e2
            have h5 : (f : Int) < (rs.length : Int) := by rw [ZR.out]; omega
            have h6 : (f : Int) < (ss.length : Int) := by rw [ZS.out]; omega
            have HS2 := Lib.hid hS2
            clear hS1 hS2 hx2 hx3 hx4 hx5 hq HST
            go_wp2
            go_quiet (fail)
            go_wp2
            go_roundw
            case rel => exact ⟨k + 1, f + 1, by omega, by omega, by go_num, by go_num, by congr 1; omega, HS2, bdrewN hbel2 _⟩
            case measure => simp [intOf]; omega
          · obtain ⟨hS1, hS2⟩ := HST.out.back hq hkd hfk
            obtain ⟨m, hm⟩ : ∃ m, f + ((decs l).length - k) - 1 = m := ⟨_, rfl⟩
            rw [hm] at hS1
            obtain ⟨b4, off4, x4, hA4, hb4, hx4, hc4⟩ := (rr8.next hbel2).at_ (i := m) (by rw [ZR.out]; omega)
            obtain ⟨b5, off5, x5, hA5, hb5, hx5, hc5⟩ := (rs8.next hbel2).at_ (i := m) (by rw [ZS.out]; omega)
            have e1 : x2 = x4 := by
              rw [HG5.out, List.getElem?_map, hS1] at hx2
              rw [HRS.out, runes8, List.getElem?_map, hx2] at hx4
              exact Option.some.inj hx4
            have e2 : x3 = x5 := by
              rw [HG6.out, List.getElem?_map, hS1] at hx3
              rw [HSS.out, sizes8, List.getElem?_map, hx3] at hx5
              exact Option.some.inj hx5
            subst hA4 hA5 e1 e2
            have h5 : (m : Int) < (rs.length : Int) := by rw [ZR.out]; omega
            have h6 : (m : Int) < (ss.length : Int) := by rw [ZS.out]; omega
            have hme : (f : Int) + (bk.length : Int) - (k : Int) - 1 = (m : Int) := by rw [ZB.out]; omega
            rw [hme]
            have HME := Lib.hid hme
            have HS2 := Lib.hid hS2
            clear hS1 hS2 hx2 hx3 hx4 hx5 hq HST hm hme
            go_wp2
            go_quiet (fail)
            go_wp2
            go_roundw
            case rel => exact ⟨k + 1, f, by omega, by omega, by go_num, rfl, by congr 1; have := HME.out; omega, HS2, bdrewN hbel2 _⟩
            case measure => simp [intOf]; omega
        · have h2 : ¬ (k : Int) < (bk.length : Int) := by omega
          go_wp2
          go_ret
          exact ⟨rfl, bnext l18 hbel2⟩
end Go.Proofs.YtbjigbhjnmcdgaaDoor
