/- FnPutTogether: the walk. -/
import Derived.Test.YtbjigbhjnmcdgaaDoorValidEach
import Derived.Test.YtbjigbhjnmcdgaaDoorPlainValid
import Derived.Test.YtbjigbhjnmcdgaaDoorDoor
import Derived.Test.YtbjigbhjnmcdgaaDoorStep2
set_option linter.unusedVariables false
namespace Go.Proofs.YtbjigbhjnmcdgaaDoor
open Go.RowKit P

theorem RdV.one (w : World) (e : TypeId) (v : Value) : RdV (w.alloc (.cells #[v] e)) (some ⟨w.heap.size, 0, none⟩) [v] := fun _ =>
  ⟨w.heap.size, 0, rfl, by simp, fun j x hx => by
    match j, hx with
    | 0, hx =>
      simp at hx; subst hx
      simp⟩
theorem PcsO.one {w : World} {base : Nat} {A : Option Addr} {c : Nat} {l : List Int} (h : Own w base 5 .u8 (.slice A l.length c) l) : PcsO w base [Value.slice A l.length c] [l] :=
  PcsO.snoc (PcsO.nil w base) h
/-- how many of the first k runes are errors of one byte -/
def badN (l : List Int) (k : Nat) : Nat := ((decs l).take k).countP fun d => decide (d = (65533, 1))
theorem badN_succ {l : List Int} {k : Nat} {d : Int × Nat} (h : (decs l)[k]? = some d) : badN l (k + 1) = badN l k + if d = (65533, 1) then 1 else 0 := by
  unfold badN
  rw [List.take_add_one, h]
  simp [List.countP_append]
theorem badN_all {l : List Int} {k : Nat} (hb : Bytes l) (hk : (decs l).length ≤ k) : vld l = decide ((badN l k : Int) = 0) := by
  unfold badN
  rw [List.take_of_length_le hk, Bool.eq_iff_iff, vld_iff _ l (Nat.le_refl _) hb, decide_eq_true_iff]
  rw [show ((List.countP (fun d => decide (d = (65533, 1))) (decs l) : Nat) : Int) = 0 ↔ List.countP (fun d => decide (d = (65533, 1))) (decs l) = 0 by omega, List.countP_eq_zero]
  simp
theorem put_step {l p rest : List Int} {k : Nat} (hb : Bytes l) (hp : p ++ rest = l) (hd : decs rest = (decs l).drop k) (hk : k < (decs l).length) :
    (decs l)[k]? = some (dec1 rest) ∧
    ((∃ b t, rest = b :: t ∧ dec1 rest = (65533, 1) ∧ l[p.length]? = some b ∧ (p ++ [b]) ++ t = l ∧ decs t = (decs l).drop (k + 1)) ∨
     (∃ r t, good r = true ∧ dec1 rest = (r, (enc r).length) ∧ dec1 rest ≠ (65533, 1) ∧ (p ++ enc r) ++ t = l ∧ decs t = (decs l).drop (k + 1))) := by
  have hbr : Bytes rest := Bytes.right (p := p) (by rw [hp]; exact hb)
  have hne : rest ≠ [] := fun e => by
    rw [e, decs_nil] at hd
    have := congrArg List.length hd
    simp at this; omega
  have hs := decs_step hne
  rw [hd] at hs
  have h1 : (decs l)[k]? = some (dec1 rest) := by
    have := congrArg (fun z => z[0]?) hs
    simpa using this
  have h2 : decs (rest.drop (dec1 rest).2) = (decs l).drop (k + 1) := by
    have := congrArg List.tail hs
    simpa using this.symm
  refine ⟨h1, ?_⟩
  rcases dec1_cases hbr hne with e | ⟨r, hg, ⟨t, ht⟩, e⟩
  · left
    obtain ⟨b, t, rfl⟩ := List.exists_cons_of_ne_nil hne
    refine ⟨b, t, rfl, e, ?_, by rw [← hp]; simp, ?_⟩
    · rw [← hp, List.getElem?_append_right (Nat.le_refl _), Nat.sub_self]; rfl
    · rw [e] at h2; exact h2
  · right
    refine ⟨r, t, hg, e, fun e2 => ?_, by rw [← hp, ← ht]; simp, ?_⟩
    · exact dec1_err e2 r hg ⟨t, ht⟩
    · rw [e, ← ht] at h2
      simpa using h2

set_option maxRecDepth 100000 in
set_option maxHeartbeats 4000000 in
theorem putTogether_walk {A : Option Addr} {l : List Int} {c : Nat} {w : World} (hr : Rd w .u8 A l) (hb : Bytes l) (hcap : l.length ≤ c) (hl : l.length ≤ 1048576) (hT : Tabs w) :
    Calls Tryd.prog 6 #[.slice A l.length c] w fun e w' => e = .returned (.bool true) ∧ Below w.heap.size w w' := by
  have BY := Lib.hid hb
  clear hb
  go_enter Tryd.func6, Tryd.ntmps6
  go_wp2_with fail
  refine (copied_any hr (by omega)).mono ?_
  rintro e w1 ⟨A1, c1, b1, hb1, rfl, o1, l1⟩
  have yb1 : Bytes b1 := by rw [hb1.out]; exact BY.out
  have zb1 : b1.length ≤ 1048576 := by rw [hb1.out]; exact hl
  go_wp2_with fail
  refine (decodeBytes_any o1.rd yb1 (hT.next l1) o1.len.2 (by omega)).mono ?_
  rintro e w2 ⟨A2, c2, A3, c3, rs, ss, hrs, hss, rfl, o2, o3, l2⟩
  have l12 := bnext l1 l2
  have HRS : Hid (rs = runes8 l) := by show _ = _; rw [hrs.out, hb1.out]
  have HSS : Hid (ss = sizes8 l) := by show _ = _; rw [hss.out, hb1.out]
  have hds := decs_le l
  have ZR : Hid (rs.length = (decs l).length) := by show _ = _; rw [HRS.out, runes8_len]
  have ZS : Hid (ss.length = (decs l).length) := by show _ = _; rw [HSS.out, sizes8_len]
  have zr : rs.length ≤ 1048576 := by rw [ZR.out]; omega
  have zs : ss.length ≤ 1048576 := by rw [ZS.out]; omega
  have t1 : ((rs.length : Int) != (ss.length : Int)) = false := by simp only [bne_eq_false_iff_eq]; rw [ZR.out, ZS.out]
  have rr := o2.rd
  have rs_ := o3.rd
  have hr2 := hr.next l12
  have hT2 := hT.next l12
  clear o1 l1 l2 hr hT hrs hss hb1 yb1 zb1 hds o2 o3
  go_wp2
  go_loopw [5, 6, 24] (fun v5 v6 v24 wr => ∃ (k e : Nat) (A5 : Option Addr) (c5 : Nat) (p rest : List Int), k ≤ rs.length ∧ e ≤ k ∧ v24 = .int .i64 k ∧ v6 = .int .i64 e ∧ v5 = .slice A5 p.length c5 ∧ Hid (p ++ rest = l) ∧ Hid (decs rest = (decs l).drop k) ∧ Hid (e = badN l k) ∧ p.length ≤ l.length ∧ Own wr w2.heap.size 5 .u8 (.slice A5 p.length c5) p ∧ Below w2.heap.size w2 wr)
    (fun _ _ v24 _ => rs.length - (intOf v24).toNat)
  case atStart => exact ⟨0, 0, _, 0, [], l, Nat.zero_le _, Nat.le_refl _, rfl, rfl, rfl, rfl, rfl, rfl, Nat.zero_le _, Own.empty _ _ _, (Below.refl _ _).alloc (Nat.le_refl _) _⟩
  case round =>
    obtain ⟨k, e, A5, c5, p, rest, hk, hek, rfl, rfl, rfl, HP, HDR, HE, hpl, hown, hbel⟩ := hrel
    have hsz := hbel.size
    by_cases hkr : k < rs.length
    · have h1 : (k : Int) < (rs.length : Int) := by omega
      have h2 : (k : Int) < (ss.length : Int) := by rw [ZS.out, ← ZR.out]; omega
      have hkd : k < (decs l).length := by rw [← ZR.out]; exact hkr
      obtain ⟨b2, off2, x, hA2, hb2, hx, hc2⟩ := (rr.next hbel).at_ (i := k) (by rw [ZR.out]; exact hkd)
      obtain ⟨b3, off3, y, hA3, hb3, hy, hc3⟩ := (rs_.next hbel).at_ (i := k) (by rw [ZS.out]; exact hkd)
      subst hA2 hA3
      obtain ⟨hk1, hk2⟩ := put_step BY.out HP.out HDR.out hkd
      have hx1 : x = (dec1 rest).1 := by
        rw [HRS.out, runes8, List.getElem?_map, hk1] at hx
        exact (Option.some.inj hx).symm
      have hy1 : y = ((dec1 rest).2 : Int) := by
        rw [HSS.out, sizes8, List.getElem?_map, hk1] at hy
        exact (Option.some.inj hy).symm
      have hbad := badN_succ hk1
      clear hx hy hk1
      rcases hk2 with ⟨b, t, hrt, hd1, hlb, hpt, hdt⟩ | ⟨r, t, hg, hd1, hd2, hpt, hdt⟩
      · rw [hd1] at hx1 hy1
        simp only at hx1 hy1
        rw [if_pos hd1] at hbad
        have hpl2 : p.length + 1 ≤ l.length := by have := congrArg List.length hpt; simp at this; omega
        obtain ⟨b4, off4, z, hA4, hb4, hz4, hc4⟩ := (hr2.next hbel).at_ (i := p.length) (by omega)
        rw [hlb] at hz4
        have hz5 : b = z := Option.some.inj hz4
        subst hz5 hA4 hx1 hy1
        have HB := Lib.hid hbad
        have HPT := Lib.hid hpt
        have HDT := Lib.hid hdt
        have h3 : (p.length : Int) < (l.length : Int) := by omega
        have h4 : ¬ (l.length : Int) < (p.length : Int) + 1 := by omega
        have hq1 : (p.length + 1) * 1 ≤ 140737488355328 := by omega
        have hq2 : p.length + 1 ≤ maxLen := by unfold maxLen; omega
        clear hrt hd1 hlb hpt hdt hz4 hbad
        go_wp2_with (at_builtin; refine wpList_app1 wr rfl _ _ 22 rfl w2.heap.size 5 .u8 1 Tryd.underlying22 info_u8 b hown rfl rfl hq1 hq2 hsz ?_; intro A8 c8 p1 w3 he1 hown3 hg3)
        have hb3 := hg3.below_new hown hsz
        have hz : p1.length ≤ l.length := by rw [he1.out, List.length_append]; simp; omega
        have hfin := hbel.trans hb3
        clear hown hg3
        go_roundw
        case rel => exact ⟨k + 1, e + 1, A8, c8, p1, t, by omega, by omega, by go_num, by go_num, rfl, by show _ = _; rw [he1.out]; exact HPT.out, HDT, by show _ = _; rw [HE.out, HB.out], hz, hown3, hfin⟩
        case measure => simp [intOf]; omega
      · rw [hd1] at hx1 hy1
        simp only at hx1 hy1
        rw [if_neg hd2] at hbad
        have hel := enc_len r
        have hpl2 : p.length + (enc r).length ≤ l.length := by have := congrArg List.length hpt; simp at this; omega
        have hgb := good_iff.1 hg
        have hxy : ¬ (x = 65533 ∧ y = 1) := fun ⟨e1, e2⟩ => hd2 (by rw [hd1]; exact Prod.ext (by omega) (by simp only; omega))
        have HB := Lib.hid hbad
        have HPT := Lib.hid hpt
        have HDT := Lib.hid hdt
        obtain ⟨n, hn⟩ : ∃ n, (enc r).length = n := ⟨_, rfl⟩
        rw [hn] at hy1 hel hpl2
        have HN := Lib.hid hn
        subst hx1 hy1
        have hn1 : ¬ (n : Int) < 1 := by omega
        have hn2 : ¬ (4 : Int) < (n : Int) := by omega
        have hn3 : ¬ (l.length : Int) < (p.length : Int) + (n : Int) := by omega
        have hi : I32 [x] := fun q hq => by simp at hq; subst hq; omega
        have HCL := Lib.hid (appendBytes_any (c := c5) (c' := 1) (hown.rd.alloc (.cells #[.int .i32 x] 21)) (Rd.one wr .i32 21 x) hi (by simp; omega))
        have fin : ∀ (e : Ending) (w' : World), Made (wr.alloc (.cells #[.int .i32 x] 21)) 5 .u8 (p ++ encs [x]) e w' → ∃ A8 c8 p1, Hid (p1 = p ++ enc x) ∧ e = .returned (.slice A8 p1.length c8) ∧ Own w' w2.heap.size 5 .u8 (.slice A8 p1.length c8) p1 ∧ Below w2.heap.size w2 w' := by
          rintro e w' ⟨A8, c8, p1, hp1, rfl, o8, l8⟩
          refine ⟨A8, c8, p1, by show _ = _; rw [hp1.out, encs_one], rfl, o8.lower (by simp; omega), ?_⟩
          exact bnext hbel (bnext ((Below.refl _ _).alloc (Nat.le_refl _) _) l8)
        clear hpt hdt hbad hd1 hd2 hn hi hgb
        by_cases q1 : x = 65533
        · have q2 : ((n : Int) == 1) = false := by simp only [beq_eq_false_iff_ne, ne_eq]; omega
          subst q1
          clear hxy
          go_wp2_with fail
          refine HCL.out.mono ?_
          intro e' w3 hm
          obtain ⟨A8, c8, p1, hp1, rfl, o8, l8⟩ := fin e' w3 hm
          have hz : p1.length ≤ l.length := by rw [hp1.out, List.length_append, HN.out]; omega
          clear hown fin HCL hm
          go_wp2
          go_roundw
          case rel => exact ⟨k + 1, e, A8, c8, p1, t, by omega, by omega, by go_num, rfl, rfl, by show _ = _; rw [hp1.out]; exact HPT.out, HDT, by show _ = _; rw [HE.out, HB.out]; rfl, hz, o8, l8⟩
          case measure => simp [intOf]; omega
        · have q2 : (x == 65533) = false := by simp only [beq_eq_false_iff_ne, ne_eq]; omega
          clear hxy
          go_wp2_with fail
          refine HCL.out.mono ?_
          intro e' w3 hm
          obtain ⟨A8, c8, p1, hp1, rfl, o8, l8⟩ := fin e' w3 hm
          have hz : p1.length ≤ l.length := by rw [hp1.out, List.length_append, HN.out]; omega
          clear hown fin HCL hm
          go_wp2
          go_roundw
          case rel => exact ⟨k + 1, e, A8, c8, p1, t, by omega, by omega, by go_num, rfl, rfl, by show _ = _; rw [hp1.out]; exact HPT.out, HDT, by show _ = _; rw [HE.out, HB.out]; rfl, hz, o8, l8⟩
          case measure => simp [intOf]; omega
    · have h1 : ¬ (k : Int) < (rs.length : Int) := by omega
      have hke : (decs l).length ≤ k := by rw [← ZR.out]; omega
      have hrest : rest = [] := by
        have hd := HDR.out
        rw [List.drop_eq_nil_of_le hke] at hd
        cases rest with
        | nil => rfl
        | cons a t => rw [decs_step (by simp)] at hd; cases hd
      have HPL : Hid (decide (p = l) = true) := by show _ = _; rw [← HP.out, hrest]; simp
      have HVA := Lib.hid (badN_all BY.out hke)
      rw [← HE.out] at HVA
      have hr3 := hr2.next hbel
      have hT3 := hT2.next hbel
      have l13 := bnext l12 hbel
      clear hke hrest HP HDR rr rs_ hr2 hT2
      go_wp2_with fail
      refine (copied_any hr3 (by omega)).mono ?_
      rintro e' w4 ⟨A4, c4, b4, hb4, rfl, o4, l4⟩
      have yb4 : ∀ m ∈ [b4], Bytes m := fun m hm => by simp at hm; subst hm; rw [hb4.out]; exact BY.out
      have o41 := o4.alloc (.cells #[.slice A4 b4.length c4] 22)
      have hbal : Below w4.heap.size w4 (w4.alloc (.cells #[.slice A4 b4.length c4] 22)) := (Below.refl _ _).alloc (Nat.le_refl _) _
      have hT4 : Tabs (w4.alloc (.cells #[.slice A4 b4.length c4] 22)) := (hT3.next l4).next hbal
      have HVE := Lib.hid (validEach_any (c := 1) (RdV.one w4 22 (.slice A4 b4.length c4)) (PcsO.one o41) yb4 hT4 (by simp))
      go_wp2_with fail
      refine HVE.out.mono ?_
      rintro e' w5 ⟨A5', c5', va, hva, rfl, o5, l5⟩
      have HVA2 : Hid (va = [decide ((e : Int) = 0)]) := by
        show _ = _
        rw [hva.out, List.map_cons, List.map_nil, hb4.out, HVA.out]
      have l45 := bnext l4 (bnext hbal l5)
      have hn35 := hown.next l45
      have hr5 := hr3.next l45
      have l15 := bnext l13 l45
      have ZV : Hid (va.length = 1) := by show _ = _; rw [HVA2.out]; rfl
      have rv := o5.rd
      obtain ⟨b6, off6, q6, hA6, hb6, hq6, hc6⟩ := rv.at_ (i := 0) (by rw [ZV.out]; omega)
      have hq : q6 = decide ((e : Int) = 0) := by rw [HVA2.out] at hq6; exact (Option.some.inj hq6).symm
      have hc60 : w5.cell? ⟨b6, off6, none⟩ = some (.bool q6) := by simpa using hc6
      subst hA6
      have ro5 := hn35.rd
      have tl : ((va.length : Int) == 1) = true := by rw [ZV.out]; rfl
      have tl2 : (0 : Int) < (va.length : Int) := by rw [ZV.out]; omega
      clear hq6 hc6 o5 l45 l5 hn35 hbal hT4 HVE o41 o4 l4 hr3 hT3
      by_cases he : (e : Int) = 0
      · have te : ((e : Int) == 0) = true := by simp [he]
        have hq2 : q6 = true := by rw [hq]; simp [he]
        subst hq2
        clear hq he
        go_wp2_with fail
        refine (sameBytes_any ro5 hr5 (by omega)).mono ?_
        rw [HPL.out]
        rintro e' w6 ⟨rfl, n6, rfl⟩
        go_wp2
        go_ret
        exact ⟨rfl, bdrewN l15 _⟩
      · have te : ((e : Int) == 0) = false := by simp only [beq_eq_false_iff_ne, ne_eq]; exact he
        have hq2 : q6 = false := by rw [hq]; exact decide_eq_false he
        subst hq2
        clear hq he
        go_wp2_with fail
        refine (sameBytes_any ro5 hr5 (by omega)).mono ?_
        rw [HPL.out]
        rintro e' w6 ⟨rfl, n6, rfl⟩
        go_wp2
        go_ret
        exact ⟨rfl, bdrewN l15 _⟩
end Go.Proofs.YtbjigbhjnmcdgaaDoor
