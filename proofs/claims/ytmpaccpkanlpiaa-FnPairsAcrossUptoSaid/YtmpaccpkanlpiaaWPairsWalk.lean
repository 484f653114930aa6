/- FnPairsWalk: the walk. -/
import Derived.Test.YtmpaccpkanlpiaaPairs
import Derived.Test.YtmpaccpkanlpiaaMaps
import Derived.Test.YtmpaccpkanlpiaaUnits2
set_option linter.unusedVariables false
namespace Go.Proofs.Ytmpaccpkanlpiaa
open Go.RowKit P

theorem map_atB {xs : List Int} {ys : List Bool} {f : Int → Bool} {k : Nat} {x : Int} (h : ys = xs.map f) (hx : xs[k]? = some x) : ys[k]? = some (f x) := by
  rw [h, List.getElem?_map, hx]; rfl

set_option maxHeartbeats 4000000 in
theorem pairsWalk_walk {A : Option Addr} {us : List Int} {c : Nat} {w : World} (hu : Rd w .u16 A us) (hw : Units us) (hl : us.length ≤ 1048576) :
    Calls Try.prog 4 #[.slice A us.length c] w fun e w' => e = .returned (.bool true) ∧ Below w.heap.size w w' := by
  go_enter Try.func4, Try.ntmps4
  go_wp2_with fail
  refine (pairsOf_any hu hw (by omega)).mono ?_
  rintro e w1 ⟨A1, c1, ps, hps, rfl, o1, l1⟩
  go_wp2_with fail
  refine (surrogatesOf_any (hu.next l1) hw (by omega)).mono ?_
  rintro e w2 ⟨A2, c2, al, hal, rfl, o2, l2⟩
  have e1 : ps.length = us.length - 1 := by rw [hps.out, prs_length]
  have e2 : al.length = us.length := by rw [hal.out, List.length_map]
  have r1 := (o1.next l2).rd
  have r2 := o2.rd
  have l02 := bnext l1 l2
  have ru := hu.next l02
  have q1 := Lib.hid e1
  have q2 := Lib.hid e2
  have t1 : ((al.length : Int) != (us.length : Int)) = false := by simp only [bne_eq_false_iff_eq]; omega
  clear o1 o2 l1 l2 hu e1 e2
  have go2 : ∀ (acc : List Int) (A' : Option Addr) (c' : Nat), True := fun _ _ _ => trivial
  clear go2
  rcases (by omega : us.length = 0 ∨ 0 < us.length) with h0 | h0
  · obtain rfl : us = [] := List.eq_nil_of_length_eq_zero h0
    have hp0 : ps = [] := by rw [hps.out]; rfl
    have ha0 : al = [] := by rw [hal.out]; rfl
    subst hp0 ha0
    clear h0 q1 q2 t1 hps hal r1 r2
    go_wp2
    refine wp_loop_rounds 1 ?_
    rw [rounds_succ]
    go_wp2_with fail
    refine (decodeUnits_any ru hw (by simp) (by simp [dec16_nil])).mono ?_
    rintro e w3 ⟨A3, c3, d, hd, rfl, o3, l3⟩
    have hd0 : d = [] := by rw [hd.out]; rfl
    subst hd0
    go_wp2_with fail
    refine (sameRunes_any (xs := []) (ys := []) (A' := none) (c' := 0) o3.rd (Rd.nil _ _ _) (by simp)).mono ?_
    rintro e w4 ⟨rfl, n4, rfl⟩
    go_wp2
    go_ret
    exact ⟨rfl, bdrewN (bnext l02 l3) n4⟩
  · have h0' : (0 : Int) < (us.length : Int) := by omega
    have t2 : ((ps.length : Int) != (us.length : Int) - 1) = false := by simp only [bne_eq_false_iff_eq]; have := q1.out; omega
    go_wp2
    go_loopw [5, 6] (fun v i wr => ∃ (k : Nat) (A : Option Addr) (c : Nat) (acc : List Int), k ≤ us.length ∧ i = .int .i64 k ∧ Hid (acc ++ dec16 (us.drop k) = dec16 us) ∧ v = .slice A acc.length c ∧ Own wr w2.heap.size 21 .i32 (.slice A acc.length c) acc ∧ Below w2.heap.size w2 wr)
      (fun _ i _ => us.length - (intOf i).toNat)
    case atStart => exact ⟨0, none, 0, [], Nat.zero_le _, rfl, rfl, rfl, Own.nil _ _ _ _, Below.refl _ _⟩
    case round =>
      obtain ⟨k, A4, c4, acc, hk, rfl, hacc, rfl, hown, hbel⟩ := hrel
      have hsz := hbel.size
      have hle : acc.length ≤ us.length := by
        have := congrArg List.length hacc.out
        have h2 := dec16_le us
        simp only [List.length_append] at this
        omega
      by_cases hlt : k < us.length
      · obtain ⟨b, off, x, rfl, hb, hxk, hcx⟩ := (ru.next hbel).at_ hlt
        obtain ⟨b2, off2, y2, rfl, hb2, hy2, hc2⟩ := (r2.next hbel).at_ (i := k) (by rw [q2.out]; exact hlt)
        have g2 : y2 = (isH x || isL x) := by have := map_atB hal.out hxk; rw [hy2] at this; injection this
        subst g2
        have hx16 := hw x (mem_at hxk)
        have HX := Lib.hid hxk
        have hx0 := hx16.1
        have hx1 := hx16.2
        clear hxk hy2 hx16
        have h1 : (k : Int) < (us.length : Int) := by omega
        have i2 : (k : Int) < (al.length : Int) := by rw [q2.out]; omega
        have step : ∀ (m : Nat) (z : Int) (acc1 : List Int), dec16 (us.drop k) = z :: dec16 (us.drop m) → acc1 = acc ++ [z] → acc1 ++ dec16 (us.drop m) = dec16 us := fun m z acc1 h1 h2 => by
          rw [h2, ← hacc.out, h1]; simp
        have HS := Lib.hid step
        clear step
        -- one alone
        have alone : ∀ (hnp : ∀ v t', us.drop (k + 1) = v :: t' → isPair x v = false), dec16 (us.drop k) = loneR x :: dec16 (us.drop (k + 1)) := fun h => by
          rw [drop_at HX.out]; exact dec16_cons x _ h
        have HL := Lib.hid alone
        clear alone
        by_cases hlt2 : k + 1 < us.length
        · obtain ⟨b', off', y, heq, hb', hyk, hcy⟩ := (ru.next hbel).at_ hlt2
          injection heq with heq
          injection heq with hbb hoo
          subst hbb hoo
          obtain ⟨b3, off3, y3, rfl, hb3, hy3, hc3⟩ := (r1.next hbel).at_ (i := k) (by rw [q1.out]; omega)
          have g3 : y3 = dr x y := by have := prs_at HX.out hyk; rw [← hps.out, hy3] at this; injection this
          subst g3
          have HY := Lib.hid hyk
          clear hyk hy3 hcy
          have h2 : (k : Int) + 1 < (us.length : Int) := by omega
          have i3 : (k : Int) < (ps.length : Int) := by rw [q1.out]; omega
          by_cases hp : isPair x y = true
          · have hdr : dr x y = pairR x y := by unfold dr; rw [if_pos hp]
            rw [hdr] at hc3
            have hpb := pair_big hp
            have hp0 := hpb.1
            have hp1 := hpb.2
            have hd : dec16 (us.drop k) = pairR x y :: dec16 (us.drop (k + 2)) := by
              rw [drop_at HX.out, drop_at HY.out]; exact dec16_pair _ hp
            have HD := Lib.hid hd
            clear hd hp hdr hpb
            generalize pairR x y = z at *
            have hne : (z != 65533) = true := by simp; omega
            go_wp2_with (at_builtin; refine wpList_app1 _ rfl _ _ 22 rfl w2.heap.size 21 .i32 4 Try.underlying22 info_i32 z hown rfl rfl (by omega) (by unfold maxLen; omega) (by omega) ?_; intro A5 c5 acc1 w5 he1 hown1 hg1)
            have hb1 := hg1.below_new hown hsz
            clear hown hg1
            go_roundw
            case rel => exact ⟨k + 2, A5, c5, acc1, by omega, by go_num, HS.out _ _ _ HD.out he1.out, rfl, hown1, hbel.trans hb1⟩
            case measure => simp [intOf]; omega
          · have hp' : isPair x y = false := by simpa using hp
            have hdr : dr x y = 65533 := by unfold dr; rw [if_neg hp]
            rw [hdr] at hc3
            have hd := HL.out (fun v t' e => by rw [drop_at HY.out] at e; injection e with e _; subst e; exact hp')
            have HD := Lib.hid hd
            clear hd hp hp' hdr
            by_cases hs : (isH x || isL x) = true
            · have hlone : loneR x = 65533 := by unfold loneR; rw [if_pos (by simpa using hs)]
              rw [hlone] at HD
              rw [hs] at hc2
              clear hs hlone
              go_wp2_with (at_builtin; refine wpList_app1 _ rfl _ _ 22 rfl w2.heap.size 21 .i32 4 Try.underlying22 info_i32 65533 hown rfl rfl (by omega) (by unfold maxLen; omega) (by omega) ?_; intro A5 c5 acc1 w5 he1 hown1 hg1)
              have hb1 := hg1.below_new hown hsz
              clear hown hg1
              go_roundw
              case rel => exact ⟨k + 1, A5, c5, acc1, by omega, by go_num, HS.out _ _ _ HD.out he1.out, rfl, hown1, hbel.trans hb1⟩
              case measure => simp [intOf]; omega
            · have hs' : (isH x || isL x) = false := by simpa using hs
              have hlone : loneR x = x := by unfold loneR; rw [if_neg (by simpa using hs)]
              rw [hlone] at HD
              rw [hs'] at hc2
              clear hs hs' hlone
              go_wp2_with (at_builtin; refine wpList_app1 _ rfl _ _ 22 rfl w2.heap.size 21 .i32 4 Try.underlying22 info_i32 x hown rfl rfl (by omega) (by unfold maxLen; omega) (by omega) ?_; intro A5 c5 acc1 w5 he1 hown1 hg1)
              have hb1 := hg1.below_new hown hsz
              clear hown hg1
              go_roundw
              case rel => exact ⟨k + 1, A5, c5, acc1, by omega, by go_num, HS.out _ _ _ HD.out he1.out, rfl, hown1, hbel.trans hb1⟩
              case measure => simp [intOf]; omega
        · have h2 : decide ((k : Int) + 1 < (us.length : Int)) = false := by simp only [decide_eq_false_iff_not]; omega
          have hd := HL.out (fun v t' e => by
            have := congrArg List.length e
            simp at this; omega)
          have HD := Lib.hid hd
          clear hd
          by_cases hs : (isH x || isL x) = true
          · have hlone : loneR x = 65533 := by unfold loneR; rw [if_pos (by simpa using hs)]
            rw [hlone] at HD
            rw [hs] at hc2
            clear hs hlone
            go_wp2_with (at_builtin; refine wpList_app1 _ rfl _ _ 22 rfl w2.heap.size 21 .i32 4 Try.underlying22 info_i32 65533 hown rfl rfl (by omega) (by unfold maxLen; omega) (by omega) ?_; intro A5 c5 acc1 w5 he1 hown1 hg1)
            have hb1 := hg1.below_new hown hsz
            clear hown hg1
            go_roundw
            case rel => exact ⟨k + 1, A5, c5, acc1, by omega, by go_num, HS.out _ _ _ HD.out he1.out, rfl, hown1, hbel.trans hb1⟩
            case measure => simp [intOf]; omega
          · have hs' : (isH x || isL x) = false := by simpa using hs
            have hlone : loneR x = x := by unfold loneR; rw [if_neg (by simpa using hs)]
            rw [hlone] at HD
            rw [hs'] at hc2
            clear hs hs' hlone
            go_wp2_with (at_builtin; refine wpList_app1 _ rfl _ _ 22 rfl w2.heap.size 21 .i32 4 Try.underlying22 info_i32 x hown rfl rfl (by omega) (by unfold maxLen; omega) (by omega) ?_; intro A5 c5 acc1 w5 he1 hown1 hg1)
            have hb1 := hg1.below_new hown hsz
            clear hown hg1
            go_roundw
            case rel => exact ⟨k + 1, A5, c5, acc1, by omega, by go_num, HS.out _ _ _ HD.out he1.out, rfl, hown1, hbel.trans hb1⟩
            case measure => simp [intOf]; omega
      · have h1 : ¬ (k : Int) < (us.length : Int) := by omega
        have hfin : acc = dec16 us := by rw [← hacc.out, List.drop_eq_nil_of_le (by omega), dec16_nil, List.append_nil]
        have HF := Lib.hid hfin
        clear hfin
        go_wp2_with fail
        refine (decodeUnits_any (ru.next hbel) hw (by omega) (by have := dec16_le us; omega)).mono ?_
        rintro e w3 ⟨A3, c3, d, hd, rfl, o3, l3⟩
        have hdd : Hid (decide (d = acc) = true) := by show _ = _; rw [hd.out, HF.out]; simp
        go_wp2_with fail
        refine (sameRunes_any o3.rd (hown.next l3).rd (by rw [hd.out]; have := dec16_le us; omega)).mono ?_
        rintro e w4 ⟨rfl, n4, rfl⟩
        rw [hdd.out]
        go_wp2
        go_ret
        exact ⟨rfl, bdrewN (bnext (bnext l02 hbel) l3) n4⟩
end Go.Proofs.Ytmpaccpkanlpiaa
