/- FnPairsAcross: the walk. -/
import Derived.Test.YtmpaccpkanlpiaaWPairsWalk
import Derived.Test.YtmpaccpkanlpiaaSlices
set_option linter.unusedVariables false
namespace Go.Proofs.Ytmpaccpkanlpiaa
open Go.RowKit P

theorem decodeUnits_n {A : Option Addr} {us : List Int} {c n : Nat} {w : World} (hu : Rd w .u16 A us) (hn : us.length = n) (hw : Units us) (hlu : us.length ≤ 1000000000000000) (hl : (dec16 us).length * 4 ≤ 140737488355328) :
    Calls Try.prog 23 #[.slice A n c] w (Made w 21 .i32 (dec16 us)) := by
  subst hn; exact decodeUnits_any hu hw hlu hl
theorem two_at {us : List Int} {k : Nat} {x y : Int} (hx : us[k]? = some x) (hy : us[k + 1]? = some y) : (us.drop k).take 2 = [x, y] := by
  rw [drop_at hx, drop_at hy]; rfl
theorem sur_iff (x : Int) : (isH x || isL x) = true ↔ 55296 ≤ x ∧ x < 57344 := by
  simp only [Bool.or_eq_true, isH_iff, isL_iff]; omega
theorem dec_two_pair {x y : Int} (h : isPair x y = true) : (encs (dec16 [x, y])).length = 4 := by
  rw [dec16_pair _ h, dec16_nil, encs_cons, encs_nil, List.append_nil]
  have hb := pair_big h
  rw [enc, Lib.encodeRuneZ_four hb.1 hb.2]; rfl
theorem dec_two_alone {x y : Int} (h : isPair x y = false) (hx : (isH x || isL x) = true) (hy : (isH y || isL y) = true) : (encs (dec16 [x, y])).length = 6 := by
  rw [dec16_lone _ h, dec16_one]
  have e1 : loneR x = 65533 := by unfold loneR; rw [if_pos (by simpa using hx)]
  have e2 : loneR y = 65533 := by unfold loneR; rw [if_pos (by simpa using hy)]
  rw [e1, e2]; decide

set_option maxRecDepth 100000 in
set_option maxHeartbeats 8000000 in
theorem pairsAcross_walk {A : Option Addr} {us : List Int} {c : Nat} {w : World} (hu : Rd w .u16 A us) (hw : Units us) (hl : us.length ≤ 1048576) (hcap : us.length ≤ c) :
    Calls Try.prog 13 #[.slice A us.length c] w fun e w' => e = .returned (.bool true) ∧ Below w.heap.size w w' := by
  obtain ⟨j16, hj16, _, hs16, _⟩ := info_parts info_u16
  have J16 := Lib.hid (And.intro hj16 hs16)
  clear hj16 hs16
  go_enter Try.func13, Try.ntmps13
  go_wp2_with fail
  refine (pairsOf_any hu hw (by omega)).mono ?_
  rintro e w1 ⟨A1, c1, ps, hps, rfl, o1, l1⟩
  go_wp2_with fail
  refine (surrogatesOf_any (hu.next l1) hw (by omega)).mono ?_
  rintro e w2 ⟨A2, c2, al, hal, rfl, o2, l2⟩
  have e1 : ps.length = us.length - 1 := by rw [hps.out, prs_length]
  have e2 : al.length = us.length := by rw [hal.out, List.length_map]
  have r1 := (o1.next l2).rd
  have r2 := o2.rd
  have l02 := bnext l1 l2
  have ru := hu.next l02
  have q1 := Lib.hid e1
  have q2 := Lib.hid e2
  have t1 : ((al.length : Int) != (us.length : Int)) = false := by simp only [bne_eq_false_iff_eq]; omega
  clear o1 o2 l1 l2 hu e1 e2
  rcases (by omega : us.length = 0 ∨ 0 < us.length) with h0 | h0
  · obtain rfl : us = [] := List.eq_nil_of_length_eq_zero h0
    have hp0 : ps = [] := by rw [hps.out]; rfl
    have ha0 : al = [] := by rw [hal.out]; rfl
    subst hp0 ha0
    clear h0 q1 q2 t1 hps hal r1 r2
    go_wp2
    refine wp_loop_rounds 1 ?_
    rw [rounds_succ]
    go_wp2
    go_ret
    exact ⟨rfl, l02⟩
  · have h0' : (0 : Int) < (us.length : Int) := by omega
    have t2 : ((ps.length : Int) != (us.length : Int) - 1) = false := by simp only [bne_eq_false_iff_eq]; have := q1.out; omega
    go_wp2
    go_loopw [32] (fun i wr => ∃ k : Nat, k ≤ ps.length ∧ i = .int .i64 k ∧ Below w2.heap.size w2 wr) (fun i _ => ps.length - (intOf i).toNat)
    case atStart => exact ⟨0, Nat.zero_le _, rfl, Below.refl _ _⟩
    case round =>
      obtain ⟨k, hk, rfl, hbel⟩ := hrel
      have hps1 : ps.length ≤ us.length - 1 := by have := q1.out; omega
      by_cases hlt : k < ps.length
      · have hk1 : k + 1 < us.length := by omega
        obtain ⟨b3, off3, y3, rfl, hb3, hy3, hc3⟩ := (r1.next hbel).at_ hlt
        obtain ⟨x, hxk⟩ : ∃ x, us[k]? = some x := ⟨us[k], List.getElem?_eq_getElem (by omega)⟩
        obtain ⟨y, hyk⟩ : ∃ y, us[k + 1]? = some y := ⟨us[k + 1], List.getElem?_eq_getElem hk1⟩
        have g3 : y3 = dr x y := by have := prs_at hxk hyk; rw [← hps.out, hy3] at this; injection this
        subst g3
        obtain ⟨b2, off2, s2, rfl, hb2, hs2, hc2⟩ := (r2.next hbel).at_ (i := k) (by rw [q2.out]; omega)
        have g2 : s2 = (isH x || isL x) := by have := map_atB hal.out hxk; rw [hs2] at this; injection this
        subst g2
        obtain ⟨b2', off2', s4, heq, _, hs4, hc4⟩ := (r2.next hbel).at_ (i := k + 1) (by rw [q2.out]; omega)
        injection heq with heq
        injection heq with hbb hoo
        subst hbb hoo
        have g4 : s4 = (isH y || isL y) := by have := map_atB hal.out hyk; rw [hs4] at this; injection this
        subst g4
        have hcut := fun W => run_cut (P := Try.prog) (w := W) 29 33 Try.underlying29 j16 J16.out.1 J16.out.2 A us.length c k (k + 2) (by omega) (by omega)
        have e2k : ((k + 2 : Nat) : Int) = (k : Int) + 2 := by omega
        simp only [e2k] at hcut
        have hrd := (((ru.next hbel).drop c k hcap).take 2)
        rw [two_at hxk hyk] at hrd
        have h1 : (k : Int) < (ps.length : Int) := by omega
        have i2 : (k : Int) < (al.length : Int) := by rw [q2.out]; omega
        have i4 : (k : Int) + 1 < (al.length : Int) := by rw [q2.out]; omega
        have u2 : Units [x, y] := fun z hz => by
          simp at hz
          rcases hz with rfl | rfl
          · exact hw _ (mem_at hxk)
          · exact hw _ (mem_at hyk)
        have hdl : (dec16 [x, y]).length ≤ 2 := dec16_le _
        have prev : ∀ p, us[k - 1]? = some p → 0 < k → (ps[k - 1]? = some (dr p x)) := fun p hp hk0 => by
          rw [hps.out]
          refine prs_at hp ?_
          rw [show k - 1 + 1 = k by omega]; exact hxk
        have HPV := Lib.hid prev
        clear prev hy3 hs2 hs4 e2k
        have fin : ∀ (n : Nat) (W : World), True := fun _ _ => trivial
        clear fin
        have hxi := hw x (mem_at hxk)
        by_cases hp : isPair x y = true
        · have hdr : dr x y = pairR x y := by unfold dr; rw [if_pos hp]
          rw [hdr] at hc3
          have hpb := pair_big hp
          have hp0 := hpb.1
          have hpi := isPair_iff.1 hp
          have sx : (isH x || isL x) = true := by rw [sur_iff]; omega
          have sy : (isH y || isL y) = true := by rw [sur_iff]; omega
          rw [sx] at hc2
          rw [sy] at hc4
          have hlen := dec_two_pair hp
          have HLn := Lib.hid hlen
          have hfar : ∀ p, dr p x = 65533 := fun p => by unfold dr; rw [if_neg]; rw [isPair_iff]; omega
          have HF := Lib.hid hfar
          clear hp hdr hpb hpi sx sy hlen hfar hxi
          generalize pairR x y = z at *
          have hne : (z != 65533) = true := by simp; omega
          have hne2 : (z == 65533) = false := by simp; omega
          rcases (by omega : k ≤ 0 ∨ 0 < k) with hk0 | hk0
          · have hk0' : decide ((0 : Int) < (k : Int)) = false := by simp only [decide_eq_false_iff_not]; omega
            go_wp2_with fail
            refine (decodeUnits_n hrd rfl u2 (by simp) (by omega)).mono ?_
            rintro e w5 ⟨A5, c5, d, hd, rfl, o5, l5⟩
            have hdi : I32 d := fun r hr => by rw [hd.out] at hr; have := good_iff.1 (dec16_good _ _ (Nat.le_refl _) u2 r hr); omega
            go_wp2_with fail
            refine (appendNil_any o5.rd hdi (by rw [hd.out]; omega)).mono ?_
            rintro e w6 ⟨A6, c6, bs, hbs, rfl, o6, l6⟩
            have hbl : ((bs.length : Int) != 4) = false := by simp only [bne_eq_false_iff_eq]; rw [hbs.out, hd.out, HLn.out]; rfl
            go_wp2
            go_roundw
            case rel => exact ⟨k + 1, by omega, by go_num, bnext hbel (bnext l5 l6)⟩
            case measure => simp [intOf]; omega
          · obtain ⟨p, hpk⟩ : ∃ p, us[k - 1]? = some p := ⟨us[k - 1], List.getElem?_eq_getElem (by omega)⟩
            obtain ⟨b7, off7, y7, heq7, _, hy7, hc7⟩ := (r1.next hbel).at_ (i := k - 1) (by omega)
            injection heq7 with heq7
            injection heq7 with hbb7 hoo7
            subst hbb7 hoo7
            have g7 : y7 = 65533 := by have := HPV.out p hpk hk0; rw [hy7, HF.out] at this; injection this
            subst g7
            have hk0' : (0 : Int) < (k : Int) := by omega
            have h7 : (k : Int) - 1 < (ps.length : Int) := by omega
            clear hy7 hpk
            go_wp2_with fail
            refine (decodeUnits_n hrd rfl u2 (by simp) (by omega)).mono ?_
            rintro e w5 ⟨A5, c5, d, hd, rfl, o5, l5⟩
            have hdi : I32 d := fun r hr => by rw [hd.out] at hr; have := good_iff.1 (dec16_good _ _ (Nat.le_refl _) u2 r hr); omega
            go_wp2_with fail
            refine (appendNil_any o5.rd hdi (by rw [hd.out]; omega)).mono ?_
            rintro e w6 ⟨A6, c6, bs, hbs, rfl, o6, l6⟩
            have hbl : ((bs.length : Int) != 4) = false := by simp only [bne_eq_false_iff_eq]; rw [hbs.out, hd.out, HLn.out]; rfl
            go_wp2
            go_roundw
            case rel => exact ⟨k + 1, by omega, by go_num, bnext hbel (bnext l5 l6)⟩
            case measure => simp [intOf]; omega
        · have hp' : isPair x y = false := by simpa using hp
          have hdr : dr x y = 65533 := by unfold dr; rw [if_neg hp]
          rw [hdr] at hc3
          have hlen := fun a b => dec_two_alone (x := x) (y := y) hp' a b
          have HLn := Lib.hid hlen
          clear hp hp' hdr hlen hxi
          have hsx : ∀ sx sy : Bool, (isH x || isL x) = sx → (isH y || isL y) = sy → (sx = true → sy = true → (encs (dec16 [x, y])).length = 6) := fun sx sy a b c d => HLn.out (a.trans c) (b.trans d)
          have h6 := hsx _ _ rfl rfl
          have H6 := Lib.hid h6
          clear hsx h6 HLn
          generalize (isH x || isL x) = sx at *
          generalize (isH y || isL y) = sy at *
          have hkk : k ≤ 0 ∨ 0 < k := by omega
          by_cases hbs2 : sx = true ∧ sy = true
          · obtain ⟨rfl, rfl⟩ := hbs2
            have h6 := H6.out rfl rfl
            have H66 := Lib.hid h6
            clear h6
            rcases hkk with hk0 | hk0
            all_goals
              go_wp2_with fail
              refine (decodeUnits_n hrd rfl u2 (by simp) (by omega)).mono ?_
              rintro e w5 ⟨A5, c5, d, hd, rfl, o5, l5⟩
              have hdi : I32 d := fun r hr => by rw [hd.out] at hr; have := good_iff.1 (dec16_good _ _ (Nat.le_refl _) u2 r hr); omega
              go_wp2_with fail
              refine (appendNil_any o5.rd hdi (by rw [hd.out]; omega)).mono ?_
              rintro e w6 ⟨A6, c6, bs, hbs, rfl, o6, l6⟩
              have hc2' := ((bnext l5 l6).cell (p := ⟨b2, off2 + k, none⟩) hb2).trans hc2
              have hc4' := ((bnext l5 l6).cell (p := ⟨b2, off2 + (k + 1), none⟩) hb2).trans hc4
              have hbl3 : ((bs.length : Int) != 6) = false := by simp only [bne_eq_false_iff_eq]; rw [hbs.out, hd.out, H66.out]; rfl
              go_wp2
              go_roundw
              case rel => exact ⟨k + 1, by omega, by go_num, bnext hbel (bnext l5 l6)⟩
              case measure => simp [intOf]; omega
          · have hcs : (sx = false ∧ sy = false) ∨ (sx = false ∧ sy = true) ∨ (sx = true ∧ sy = false) := by cases sx <;> cases sy <;> simp_all
            clear hbs2 H6
            rcases hcs with ⟨rfl, rfl⟩ | ⟨rfl, rfl⟩ | ⟨rfl, rfl⟩ <;> rcases hkk with hk0 | hk0
            all_goals
              go_wp2_with fail
              refine (decodeUnits_n hrd rfl u2 (by simp) (by omega)).mono ?_
              rintro e w5 ⟨A5, c5, d, hd, rfl, o5, l5⟩
              have hdi : I32 d := fun r hr => by rw [hd.out] at hr; have := good_iff.1 (dec16_good _ _ (Nat.le_refl _) u2 r hr); omega
              go_wp2_with fail
              refine (appendNil_any o5.rd hdi (by rw [hd.out]; omega)).mono ?_
              rintro e w6 ⟨A6, c6, bs, hbs, rfl, o6, l6⟩
              have hc2' := ((bnext l5 l6).cell (p := ⟨b2, off2 + k, none⟩) hb2).trans hc2
              have hc4' := ((bnext l5 l6).cell (p := ⟨b2, off2 + (k + 1), none⟩) hb2).trans hc4
              go_wp2
              go_roundw
              case rel => exact ⟨k + 1, by omega, by go_num, bnext hbel (bnext l5 l6)⟩
              case measure => simp [intOf]; omega
      · have h1 : ¬ (k : Int) < (ps.length : Int) := by omega
        go_wp2
        go_ret
        exact ⟨rfl, bnext l02 hbel⟩
end Go.Proofs.Ytmpaccpkanlpiaa
