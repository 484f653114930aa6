/- FnManyParts: the walk. -/
import Derived.Test.YtbjigbhjnmcdgaaDoorAppAt
import Derived.Test.YtbjigbhjnmcdgaaDoorCutInto
import Derived.Test.YtbjigbhjnmcdgaaDoorFull2
import Derived.Test.YtbjigbhjnmcdgaaDoorDoor
set_option linter.unusedVariables false
namespace Go.Proofs.YtbjigbhjnmcdgaaDoor
open Go.RowKit P

theorem RdB.one (w : World) (e : TypeId) (y : Bool) : RdB (w.alloc (.cells #[.bool y] e)) (some ⟨w.heap.size, 0, none⟩) [y] := fun _ =>
  ⟨w.heap.size, 0, rfl, by simp, fun j x hx => by
    match j, hx with
    | 0, hx =>
      simp at hx; subst hx
      simp⟩
theorem RdV.lit (w : World) (e : TypeId) (v : Value) : RdV (w.alloc (.cells #[v] e)) (some ⟨w.heap.size, 0, none⟩) [v] := fun _ =>
  ⟨w.heap.size, 0, rfl, by simp, fun j x hx => by
    match j, hx with
    | 0, hx =>
      simp at hx; subst hx
      simp⟩
theorem PcsO.lit {w : World} {base : Nat} {A : Option Addr} {c : Nat} {l : List Int} (h : Own w base 5 .u8 (.slice A l.length c) l) : PcsO w base [Value.slice A l.length c] [l] :=
  PcsO.snoc (PcsO.nil w base) h
theorem Part.short {m : List Int} (h : Part m) : m.length ≤ 3 := by
  obtain ⟨r, p, hg, hlt, rfl⟩ := h
  have := (enc_len r).2
  rw [List.length_take]; omega
/-- what is no part of an encoding is decoded as with more behind it -/
theorem whole_dec {m t : List Int} (hb : Bytes (m ++ t)) (hnp : ¬ Part m) : dec1 (m ++ t) = dec1 m := by
  have hbm : Bytes m := hb.left
  have hne : m ≠ [] := fun e => hnp (by rw [e]; exact Part.nil)
  rcases dec1_cases hb (by simp [hne]) with e | ⟨r, hg, hp, e⟩
  · rw [e]
    refine (dec1_none hbm hne fun s hs hp => ?_).symm
    exact dec1_err e s hs (hp.trans (List.prefix_append _ _))
  · rw [e]
    refine (dec1_enc hg ?_).symm
    rcases List.prefix_or_prefix_of_prefix hp (List.prefix_append m t) with h | h
    · exact h
    · by_cases hl : (enc r).length ≤ m.length
      · obtain ⟨u, hu⟩ := h
        have := congrArg List.length hu
        rw [List.length_append] at this
        have hu0 : u = [] := List.eq_nil_of_length_eq_zero (by omega)
        rw [← hu, hu0]; simp
      · exact absurd ⟨r, m.length, hg, by omega, List.prefix_iff_eq_take.1 h⟩ hnp
theorem parts_step {m t : List Int} (hb : Bytes (m ++ t)) (hnp : ¬ Part m) : 1 ≤ (dec1 m).2 ∧ (dec1 m).2 ≤ m.length ∧ runes8 (m ++ t) = (dec1 m).1 :: runes8 (m.drop (dec1 m).2 ++ t) := by
  have hne : m ≠ [] := fun e => hnp (by rw [e]; exact Part.nil)
  obtain ⟨s1, _, s3⟩ := dec1_size hb.left hne
  refine ⟨s1, s3, ?_⟩
  rw [runes8_step (by simp [hne]), whole_dec hb hnp, List.drop_append_of_le_length s3]

theorem runes8_le (l : List Int) : (runes8 l).length ≤ l.length := by rw [runes8_len]; exact decs_le l
theorem flat_drop {ls : List (List Int)} {k : Nat} {p : List Int} (h : ls[k]? = some p) : (ls.drop k).flatten = p ++ (ls.drop (k + 1)).flatten := by
  obtain ⟨hk, e⟩ := List.getElem?_eq_some_iff.1 h
  rw [← List.getElem_cons_drop hk, e, List.flatten_cons]

set_option maxRecDepth 100000 in
set_option maxHeartbeats 8000000 in
theorem manyParts_walk {A B : Option Addr} {l ns : List Int} {c d : Nat} {w : World} (hr : Rd w .u8 A l) (hb : Bytes l) (hcap : l.length ≤ c) (hl : l.length ≤ 1048576) (hB : Rd w .u8 B ns) (hy : Bytes ns) (hn : ns.length ≤ 1048576) (hT : Tabs w) :
    Calls Tryd.prog 5 #[.slice A l.length c, .slice B ns.length d] w fun e w' => e = .returned (.bool true) ∧ Below w.heap.size w w' := by
  obtain ⟨j8, hj8, _, hs8, _⟩ := info_parts info_u8
  have J8 := Lib.hid (And.intro hj8 hs8)
  have BY := Lib.hid hb
  clear hj8 hs8 hb
  have hb0 : Below w.heap.size w (w.alloc (.cells #[] 5)) := (Below.refl _ _).alloc (Nat.le_refl _) _
  have hb1 : Below w.heap.size w ((w.alloc (.cells #[] 5)).alloc (.cells #[] 21)) := hb0.alloc hb0.size _
  have NE : Hid ((21 : TypeId) ≠ 5) := (by decide : (21 : TypeId) ≠ 5)
  go_enter Tryd.func5, Tryd.ntmps5
  go_wp2_with fail
  refine (cutInto_any (hr.next hb1) rfl hcap (hB.next hb1) hy (by omega) (by omega)).mono ?_
  rintro e w3 ⟨A3, c3, vs, rfl, ov, pv, l3⟩
  have l03 := bnext hb1 l3
  obtain ⟨ls, hls⟩ : ∃ ls, cutB l ns = ls := ⟨_, rfl⟩
  have hLS := cutB_each BY.out ns
  have hfl := cutB_flat l ns
  have hln := cutB_len l ns
  rw [hls] at pv hLS hfl hln
  have HFL := Lib.hid hfl
  have ZV : Hid (vs.length = ls.length) := pv.1
  have zvs : vs.length ≤ 1048577 := by rw [ZV.out, hln]; omega
  have HBY := Lib.hid hLS
  have rv := ov.rdv
  have hr3 := hr.next l03
  have hT3 := hT.next l03
  clear hls hfl hln hLS hb0 hb1 l3 ov hr hB hT
  go_wp2
  go_loopw [5, 6, 22] (fun v5 v6 v22 wr => ∃ (k : Nat) (A5 : Option Addr) (c5 : Nat) (lf : List Int) (A6 : Option Addr) (c6 : Nat) (gt : List Int), k ≤ vs.length ∧ lf.length ≤ 3 ∧ v22 = .int .i64 k ∧ v5 = .slice A5 lf.length c5 ∧ v6 = .slice A6 gt.length c6 ∧
      Hid (gt ++ runes8 (lf ++ (ls.drop k).flatten) = runes8 l) ∧ Bytes lf ∧ OwnAt wr w3.heap.size 5 .u8 (.slice A5 lf.length c5) lf ∧ OwnAt wr w3.heap.size 21 .i32 (.slice A6 gt.length c6) gt ∧ Below w3.heap.size w3 wr)
    (fun _ _ v22 _ => vs.length - (intOf v22).toNat)
  case atStart => exact ⟨0, _, 0, [], _, 0, [], Nat.zero_le _, by simp, rfl, rfl, rfl, by show _ = _; rw [List.drop_zero, HFL.out]; rfl, Bytes.nil, OwnAt.empty _ _, OwnAt.empty _ _, Below.refl _ _⟩
  case round =>
    obtain ⟨k, A5, c5, lf, A6, c6, gt, hk, hlf, rfl, rfl, rfl, HR, hbl, ol, og, hbel⟩ := hrel
    have hsz := hbel.size
    by_cases hlt : k < vs.length
    · have h1 : (k : Int) < (vs.length : Int) := by omega
      obtain ⟨b1, off1, v, hA1, hb1, hvk, hcv⟩ := (rv.next hbel).at_ hlt
      obtain ⟨p, Ap, cp, hlk, hvp, op⟩ := (pv.next hbel).at_ (j := k) (by rw [← ZV.out]; exact hlt)
      rw [hvk] at hvp; injection hvp with hvp
      subst hvp hA1
      obtain ⟨hpb, hpl⟩ := HBY.out p (List.mem_of_getElem? hlk)
      have HFD := Lib.hid (flat_drop hlk)
      have HFB : Hid (Bytes (ls.drop (k + 1)).flatten) := fun x hx => by
        obtain ⟨q, hq, hx⟩ := List.mem_flatten.1 hx
        exact (HBY.out q (List.mem_of_mem_drop hq)).1 x hx
      obtain ⟨F, hF⟩ : ∃ F, (ls.drop (k + 1)).flatten = F := ⟨_, rfl⟩
      rw [hF] at HFD HFB
      have HFE := Lib.hid hF
      clear hF
      have rp := op.rd
      have hq1 : (lf.length + p.length) * 1 ≤ 140737488355328 := by omega
      have hq2 : lf.length + p.length ≤ maxLen := by unfold maxLen; omega
      clear hvk hlk op
      go_wp2_with (at_builtin; refine wpList_appAt wr (by rfl) _ _ 22 rfl w3.heap.size 5 .u8 1 Tryd.underlying22 info_u8 cp rp _ rfl ol rfl rfl hq1 hq2 hsz ?_; intro A7 c7 lf1 w4 he1 ol4 hb4 _ ho4)
      have og4 := og.oth ho4 NE.out
      have l34 := hbel.trans hb4
      have hbl1 : Bytes lf1 := by rw [he1.out]; exact hbl.app hpb
      have HR1 : Hid (gt ++ runes8 (lf1 ++ F) = runes8 l) := by show _ = _; rw [← HR.out, HFD.out, he1.out, List.append_assoc]
      have zl1 : lf1.length ≤ 1048579 := by rw [he1.out, List.length_append]; omega
      clear ol og hb4 ho4 rp hbel hsz HR hbl hpb HFD he1
      go_loopw [5, 6] (fun v5 v6 wr => ∃ (A5 : Option Addr) (c5 : Nat) (lf : List Int) (A6 : Option Addr) (c6 : Nat) (gt : List Int), lf.length ≤ 1048579 ∧ v5 = .slice A5 lf.length c5 ∧ v6 = .slice A6 gt.length c6 ∧
          Hid (gt ++ runes8 (lf ++ F) = runes8 l) ∧ Bytes lf ∧ OwnAt wr w3.heap.size 5 .u8 (.slice A5 lf.length c5) lf ∧ OwnAt wr w3.heap.size 21 .i32 (.slice A6 gt.length c6) gt ∧ Below w3.heap.size w3 wr)
        (fun v5 _ _ => lenV v5)
      case atStart => exact ⟨A7, c7, lf1, A6, c6, gt, zl1, rfl, rfl, HR1, hbl1, ol4, og4, l34⟩
      case round =>
        clear ol4 og4 l34 HR1 hbl1 zl1
        obtain ⟨A8, c8, m, A9, c9, gs, zm, rfl, rfl, HM, hbm, om, os, hbel⟩ := hrel
        have hsz := hbel.size
        have zgs : gs.length ≤ 1048576 := by
          have h1 := congrArg List.length HM.out
          have h2 := runes8_le l
          rw [List.length_append] at h1; omega
        have hTr := hT3.next hbel
        have rm := om.rd
        go_wp2_with fail
        refine (copied_any rm (by omega)).mono ?_
        rintro e w5 ⟨A10, c10, q1, hq1, rfl, o5, l5⟩
        have yq1 : ∀ z ∈ [q1], Bytes z := fun z hz => by simp at hz; subst hz; rw [hq1.out]; exact hbm
        have o51 := o5.alloc (.cells #[.slice A10 q1.length c10] 22)
        have hbal : Below w5.heap.size w5 (w5.alloc (.cells #[.slice A10 q1.length c10] 22)) := (Below.refl _ _).alloc (Nat.le_refl _) _
        have hT5 : Tabs (w5.alloc (.cells #[.slice A10 q1.length c10] 22)) := (hTr.next l5).next hbal
        have HFE2 := Lib.hid (fullEach_any (c := 1) (RdV.lit w5 22 (.slice A10 q1.length c10)) (PcsO.lit o51) yq1 hT5 (by simp))
        go_wp2_with fail
        refine HFE2.out.mono ?_
        rintro e w6 ⟨A11, c11, fu, hfu, rfl, o6, l6⟩
        have HFU : Hid (fu = [fullB m]) := by show _ = _; rw [hfu.out, List.map_cons, List.map_nil, hq1.out]
        have l36 := bnext l5 (bnext hbal l6)
        clear HFE2 hT5 hbal o51 yq1 o5 hq1 hfu l5 l6
        go_wp2_with fail
        refine (copied_any (rm.next l36) (by omega)).mono ?_
        rintro e w7 ⟨A12, c12, q2, hq2, rfl, o7, l7⟩
        have yq2 : Bytes q2 := by rw [hq2.out]; exact hbm
        have zq2 : q2.length ≤ 1048579 := by rw [hq2.out]; exact zm
        have o71 := o7.alloc (.cells #[.bool false] 4)
        have hbal : Below w7.heap.size w7 (w7.alloc (.cells #[.bool false] 4)) := (Below.refl _ _).alloc (Nat.le_refl _) _
        have l37 := bnext l36 l7
        have hT7 : Tabs (w7.alloc (.cells #[.bool false] 4)) := (hTr.next l37).next hbal
        go_wp2_with fail
        refine (decodeScript_any (ts := [false]) o71.rd yq2 hT7 o7.len.2 o7.lies (by omega) (RdB.one w7 4 false) (by simp)).mono ?_
        rintro e w8 ⟨A13, c13, A14, c14, r1, s1, hr1, hs1, rfl, o8, o9, l8⟩
        have l68 := bnext l7 (bnext hbal l8)
        have l38 := bnext l36 l68
        have HR1 : Hid (r1 = [(dec1 m).1]) := by show _ = _; rw [hr1.out, hq2.out]; rfl
        have HS1 : Hid (s1 = [((dec1 m).2 : Int)]) := by show _ = _; rw [hs1.out, hq2.out]; rfl
        have rfu := (o6.next l68).rd
        have rr1 := o8.rd
        have rs1 := o9.rd
        have om8 := om.next l38
        have os8 := os.next l38
        have hbel8 := bnext hbel l38
        have hsz8 := hbel8.size
        have ZF : Hid (fu.length = 1) := by show _ = _; rw [HFU.out]; rfl
        have ZR1 : Hid (r1.length = 1) := by show _ = _; rw [HR1.out]; rfl
        have ZS1 : Hid (s1.length = 1) := by show _ = _; rw [HS1.out]; rfl
        have t1 : ((fu.length : Int) != 1) = false := by rw [ZF.out]; rfl
        have t2 : ((r1.length : Int) != 1) = false := by rw [ZR1.out]; rfl
        have t3 : ((s1.length : Int) != 1) = false := by rw [ZS1.out]; rfl
        have t4 : (0 : Int) < (fu.length : Int) := by rw [ZF.out]; omega
        have t5 : (0 : Int) < (r1.length : Int) := by rw [ZR1.out]; omega
        have t6 : (0 : Int) < (s1.length : Int) := by rw [ZS1.out]; omega
        obtain ⟨b2, off2, x2, hA2, hb2, hx2, hc2⟩ := rfu.at_ (i := 0) (by rw [ZF.out]; omega)
        obtain ⟨b3, off3, x3, hA3, hb3, hx3, hc3⟩ := rr1.at_ (i := 0) (by rw [ZR1.out]; omega)
        obtain ⟨b4, off4, x4, hA4, hb4, hx4, hc4⟩ := rs1.at_ (i := 0) (by rw [ZS1.out]; omega)
        have e2 : x2 = fullB m := by rw [HFU.out] at hx2; exact (Option.some.inj hx2).symm
        have e3 : x3 = (dec1 m).1 := by rw [HR1.out] at hx3; exact (Option.some.inj hx3).symm
        have e4 : x4 = ((dec1 m).2 : Int) := by rw [HS1.out] at hx4; exact (Option.some.inj hx4).symm
        have k2 : w8.cell? ⟨b2, off2, none⟩ = some (.bool x2) := by simpa using hc2
        have k3 : w8.cell? ⟨b3, off3, none⟩ = some (.int .i32 x3) := by simpa using hc3
        have k4 : w8.cell? ⟨b4, off4, none⟩ = some (.int .i64 x4) := by simpa using hc4
        obtain ⟨hd1, hd2⟩ := dec1_le m hbm
        subst hA2 hA3 hA4
        clear hx2 hx3 hx4 hc2 hc3 hc4 o6 o7 o71 o8 l7 l8 l36 l68 l37 hT7 hbal rfu rr1 rs1 om os l38 hr1 hs1 hq2 yq2 zq2 rm hbel hsz HFU HR1
        by_cases hP : Part m
        · have hm3 := hP.short
          have e2' : x2 = false := by rw [e2]; exact fullB_false hP
          subst e2'
          obtain ⟨n, hn0⟩ : ∃ n, (dec1 m).2 = n := ⟨_, rfl⟩
          rw [hn0] at e4 hd1 hd2
          subst e4
          have t7 : ¬ (m.length : Int) < (n : Int) := by omega
          clear o9 HS1
          have HRR : Hid (gs ++ runes8 (m ++ (ls.drop (k + 1)).flatten) = runes8 l) := by show _ = _; rw [HFE.out]; exact HM.out
          clear hn0 e2 e3 hP HM
          go_wp2
          go_roundw
          case rel =>
            first
              | exact ⟨k + 1, A8, c8, m, A9, c9, gs, by omega, hm3, by go_num, rfl, rfl, HRR, hbm, om8, os8, hbel8⟩
              | ((repeat apply Exists.intro (α := Value)); refine ⟨?_, rfl⟩; exact ⟨k + 1, A8, c8, m, A9, c9, gs, by omega, hm3, by go_num, rfl, rfl, HRR, hbm, om8, os8, hbel8⟩)
          case measure => simp [intOf]; omega
        · have e2' : x2 = true := by rw [e2]; exact fullB_true hP
          subst e2'
          obtain ⟨s1', s3, hst⟩ := parts_step (hbm.app HFB.out) hP
          obtain ⟨n, hn0⟩ : ∃ n, (dec1 m).2 = n := ⟨_, rfl⟩
          rw [← e3] at hst
          rw [hn0] at e4 hd1 hd2 s1' s3 hst HS1
          subst e4
          have o91 := o9.v.alloc (.cells #[.int .i32 x3] 21)
          have K5 : Hid (∀ w9, Oth (w8.alloc (.cells #[.int .i32 x3] 21)) w9 21 → w9.cell? ⟨b4, off4, none⟩ = some (.int .i64 (n : Int))) := fun w9 ho9 => by
            obtain ⟨b5, off5, x5, hA5, hb5, hx5, hc5⟩ := ((o91.oth ho9 int_ne.symm).ints).rd.at_ (i := 0) (by rw [ZS1.out]; omega)
            injection hA5 with hA5; injection hA5 with e5 e6; subst e5 e6
            have e7 : (n : Int) = x5 := by rw [HS1.out] at hx5; exact Option.some.inj hx5
            rw [e7]; simpa using hc5
          clear o91
          have t7 : ¬ (m.length : Int) < (n : Int) := by omega
          have t8 : ¬ (n : Int) < 1 := by omega
          have HM2 : Hid ((gs ++ [x3]) ++ runes8 (m.drop n ++ F) = runes8 l) := by show _ = _; rw [← HM.out, hst, List.append_assoc]; rfl
          have hq1 : (gs.length + [x3].length) * 4 ≤ 140737488355328 := by simp; omega
          have hq2 : gs.length + [x3].length ≤ maxLen := by unfold maxLen; simp; omega
          have hcut := fun W => run_cut_l (P := Tryd.prog) (w := W) 22 5 Tryd.underlying22 j8 J8.out.1 J8.out.2 A8 m.length c8 n (n : Int) rfl s3
          have omc := om8.cut n s3
          have hbd := hbm.drop n
          have os81 := os8.alloc (.cells #[.int .i32 x3] 21)
          have om81 := omc.alloc (.cells #[.int .i32 x3] 21)
          have hs81 : w3.heap.size ≤ (w8.alloc (.cells #[.int .i32 x3] 21)).heap.size := by simp; omega
          have hb81 : Below w3.heap.size w3 (w8.alloc (.cells #[.int .i32 x3] 21)) := hbel8.alloc hsz8 _
          clear hn0 e2 e3 hP HM hst om8 os8 omc o9
          go_wp2_with (at_builtin; refine wpList_appAt (w8.alloc (.cells #[.int .i32 x3] 21)) (by rfl) _ _ 24 rfl w3.heap.size 21 .i32 4 Tryd.underlying24 info_i32 1 (Rd.one w8 .i32 21 x3) _ rfl os81 rfl rfl hq1 hq2 hs81 ?_; intro A15 c15 gs1 w9 he9 os9 hb9 _ ho9; have k5 := K5.out w9 ho9)
          have om9 := om81.oth ho9 NE.out.symm
          have hbel9 := hb81.trans hb9
          have HM3 : Hid (gs1 ++ runes8 (m.drop n ++ F) = runes8 l) := by show _ = _; rw [he9.out]; exact HM2.out
          clear os81 om81 hb9 ho9 hb81
          go_roundw
          case rel => exact ⟨_, _, m.drop n, A15, c15, gs1, by rw [List.length_drop]; omega, by rw [List.length_drop], rfl, HM3, hbd, by rw [List.length_drop]; exact om9, os9, hbel9⟩
          case measure => simp only [lenV]; omega
    · have h1 : ¬ (k : Int) < (vs.length : Int) := by omega
      have HRR : Hid (gt ++ runes8 lf = runes8 l) := by
        show _ = _
        rw [← HR.out, List.drop_eq_nil_of_le (by rw [← ZV.out]; omega)]
        simp
      have zgt : gt.length ≤ 1048576 := by
        have h1 := congrArg List.length HRR.out
        have h2 := runes8_le l
        rw [List.length_append] at h1; omega
      have rl := ol.rd
      have hTr := hT3.next hbel
      have hrr := hr3.next hbel
      go_wp2_with fail
      refine (copied_any rl (by omega)).mono ?_
      rintro e w4 ⟨A10, c10, q1, hq1, rfl, o4, l4⟩
      have yq1 : Bytes q1 := by rw [hq1.out]; exact hbl
      have zq1 : q1.length ≤ 3 := by rw [hq1.out]; exact hlf
      go_wp2_with fail
      refine (decodeBytes_any o4.rd yq1 (hTr.next l4) o4.len.2 (by omega)).mono ?_
      rintro e w5 ⟨A11, c11, A12, c12, r5, s5, hr5, hs5, rfl, o5, o5', l5⟩
      have HR5 : Hid (r5 = runes8 lf) := by show _ = _; rw [hr5.out, hq1.out]
      have l45 := bnext l4 l5
      clear o4 l4 l5 o5' hr5 hs5 yq1 zq1 hq1
      go_wp2_with fail
      refine (copied_any (hrr.next l45) (by omega)).mono ?_
      rintro e w6 ⟨A13, c13, q2, hq2, rfl, o6, l6⟩
      have yq2 : Bytes q2 := by rw [hq2.out]; exact BY.out
      have zq2 : q2.length ≤ 1048576 := by rw [hq2.out]; exact hl
      have l46 := bnext l45 l6
      go_wp2_with fail
      refine (decodeBytes_any o6.rd yq2 (hTr.next l46) o6.len.2 (by omega)).mono ?_
      rintro e w7 ⟨A14, c14, A15, c15, r7, s7, hr7, hs7, rfl, o7, o7', l7⟩
      have HR7 : Hid (r7 = runes8 l) := by show _ = _; rw [hr7.out, hq2.out]
      have l67 := bnext l6 l7
      have l47 := bnext l45 l67
      have og7 := og.next l47
      have r57 := (o5.next l67).rd
      have r77 := o7.rd
      have zr5 : r5.length ≤ 3 := by rw [HR5.out]; have := runes8_le lf; omega
      have hbel7 := bnext hbel l47
      have hsz7 := hbel7.size
      have t1 : (lf.length : Int) ≤ 3 := by omega
      have hq1 : (gt.length + r5.length) * 4 ≤ 140737488355328 := by omega
      have hq2' : gt.length + r5.length ≤ maxLen := by unfold maxLen; omega
      clear o5 o6 o7' l45 l67 l47 l6 l7 hr7 hs7 yq2 zq2 hq2 ol rl hTr hrr
      go_wp2_with (at_builtin; refine wpList_appAt w7 (by rfl) _ _ 24 rfl w3.heap.size 21 .i32 4 Tryd.underlying24 info_i32 c11 r57 _ rfl og7 rfl rfl hq1 hq2' hsz7 ?_; intro A16 c16 g8 w8 he8 og8 hb8 hg8 ho8)
      have HQ : Hid (decide (g8 = r7) = true) := by show _ = _; rw [he8.out, HR5.out, HRR.out, HR7.out]; simp
      have o78 : OwnV w8 w6.heap.size 21 (.slice A14 r7.length c14) (r7.map (Value.int .i32)) := World.ownsRow.kept o7.v hg8 (by
        rcases o7.v.2 with ⟨hv, _⟩ | ⟨g2, cap2, cur2, hv, hge, _⟩
        · rw [hv]; exact .inl rfl
        · right
          rw [hv]
          intro h
          have h2 : g2 < wr.heap.size := og.row_lt h.symm
          have h3 := l46.size
          omega)
      have r78 := o78.ints.rd
      have hfin := bnext l03 (hbel7.trans hb8)
      have zg8 : g8.length ≤ 1048579 := by rw [he8.out, List.length_append]; omega
      clear og7 hb8 hg8 ho8 hbel7 og o7 l46 o78
      go_wp2_with fail
      refine (sameRunes_any og8.rd r78 (by omega)).mono ?_
      rw [HQ.out]
      rintro e w9 ⟨rfl, n9, rfl⟩
      go_wp2
      go_ret
      exact ⟨rfl, bdrewN hfin _⟩
end Go.Proofs.YtbjigbhjnmcdgaaDoor
