/- FnBackwardsAcross: the walk. -/
import Derived.Test.YtcbfbccmghdpgabDoorPlainAcross
import Derived.Test.YtcbfbccmghdpgabDoorDecLast
import Derived.Test.YtcbfbccmghdpgabDoorStep2
set_option linter.unusedVariables false
namespace Go.Proofs.YtcbfbccmghdpgabDoor
open Go.RowKit P

theorem runesB_encs {g : List Int} (h : ∀ r ∈ g, good r = true) : runesB (encs g) = g.reverse := by
  unfold runesB
  rw [decs_encs', List.map_map]
  congr 1
  exact map_fix_good h
theorem rev_take {g : List Int} {k : Nat} {x : Int} (h : g[k]? = some x) : (g.take (k + 1)).reverse = x :: (g.take k).reverse := by
  rw [take_snoc h]; simp
theorem Rd.two (w : World) (k : IntKind) (e : TypeId) (y z : Int) : Rd (w.alloc (.cells #[.int k y, .int k z] e)) k (some ⟨w.heap.size, 0, none⟩) [y, z] := fun _ =>
  ⟨w.heap.size, 0, rfl, by simp, fun j x hx => by
    match j, hx with
    | 0, hx =>
      simp at hx; subst hx
      rw [World.cell?_alloc_at _ _ _ _ rfl]; rfl
    | 1, hx =>
      simp at hx; subst hx
      rw [World.cell?_alloc_at _ _ _ _ rfl]; rfl⟩

set_option maxRecDepth 100000 in
set_option maxHeartbeats 4000000 in
theorem backwardsAcross_walk {A : Option Addr} {xs : List Int} {c : Nat} {w : World} (hx : Rd w .i32 A xs) (hi : I32 xs) (hT : Tabs w) (hl : xs.length ≤ 1048576) :
    Calls Tryd.prog 11 #[.slice A xs.length c] w fun e w' => e = .returned (.bool true) ∧ Below w.heap.size w w' := by
  go_enter Tryd.func11, Tryd.ntmps11
  go_wp2_with fail
  refine (goods_any hx (by omega)).mono ?_
  rintro e w1 ⟨A1, c1, g, hg, rfl, o1, l1⟩
  have zg : g.length ≤ 1048576 := by rw [hg.out]; have := filter_le xs; omega
  have ig := hi.good hg.out
  have gg : ∀ r ∈ g, good r = true := by rw [hg.out]; exact good_filter xs
  have GG := Lib.hid gg
  have rg := o1.rd
  clear gg hx o1 hg
  go_wp2
  go_loopw [4, 5] (fun v4 v5 wr => ∃ (k : Nat) (A4 : Option Addr) (c4 : Nat) (ts : List Int), k ≤ g.length ∧ ts.length + k ≤ g.length ∧ v5 = .int .i64 ((k : Int) - 1) ∧ Hid (ts ++ (g.take k).reverse = g.reverse) ∧ v4 = .slice A4 ts.length c4 ∧ Own wr w1.heap.size 21 .i32 (.slice A4 ts.length c4) ts ∧ Below w1.heap.size w1 wr)
    (fun _ v5 _ => (intOf v5 + 1).toNat)
  case atStart => exact ⟨g.length, none, 0, [], Nat.le_refl _, by simp, by go_num, (by show _ = _; rw [List.take_length]; rfl), rfl, Own.nil _ _ _ _, Below.refl _ _⟩
  case round =>
    obtain ⟨k, A4, c4, ts, hk, zt, rfl, hts, rfl, hown, hbel⟩ := hrel
    have hsz := hbel.size
    by_cases hk0 : 0 < k
    · obtain ⟨k', rfl⟩ : ∃ k', k = k' + 1 := ⟨k - 1, by omega⟩
      obtain ⟨b1, off1, x, hA1, hb1, hx, hc1⟩ := (rg.next hbel).at_ (i := k') (by omega)
      subst hA1
      have HR := Lib.hid (rev_take hx)
      have e1 : ((k' + 1 : Nat) : Int) - 1 = (k' : Int) := by omega
      rw [e1]
      have h1 : (0 : Int) ≤ (k' : Int) := by omega
      have h2 : (k' : Int) < (g.length : Int) := by omega
      clear hx e1 hk0
      go_wp2_with (at_builtin; refine wpList_app1 _ rfl _ _ 25 rfl w1.heap.size 21 .i32 4 Tryd.underlying25 info_i32 x hown rfl rfl (by omega) (by unfold maxLen; omega) hsz ?_; intro A5 c5 ts1 w5 he1 hown1 hg1)
      have hb5 := hg1.below_new hown hsz
      have zt1 : ts1.length + k' ≤ g.length := by rw [he1.out, List.length_append]; simp; omega
      clear hown hg1
      go_roundw
      case rel =>
        refine ⟨k', A5, c5, ts1, by omega, zt1, by go_num, ?_, rfl, hown1, hbel.trans hb5⟩
        show _ = _
        rw [he1.out, ← hts.out, HR.out]; simp
      case measure => simp [intOf]
    · have hk1 : k = 0 := by omega
      subst hk1
      have HT0 : Hid (ts = g.reverse) := by show _ = _; rw [← hts.out]; simp
      have r4 := hown.rd
      have lw2 := bnext l1 hbel
      have rg2 := rg.next hbel
      have hT2 := hT.next lw2
      have zt2 : ts.length ≤ 1048576 := by omega
      have its : I32 ts := fun x hx => by rw [HT0.out] at hx; exact ig x (List.mem_reverse.1 hx)
      clear hts hown hk0 hk zt rg l1 hbel hT
      go_wp2_with fail
      refine (appendNil_any rg2 ig (by omega)).mono ?_
      rintro e w3 ⟨A6, c6, b, hb, rfl, o6, l3⟩
      have zb : b.length ≤ 4194304 := by rw [hb.out]; have := (encs_len g).2; omega
      have by_ : Bytes b := by rw [hb.out]; exact encs_bytes g
      go_wp2_with fail
      refine (decodeBytesBack_any o6.rd by_ (hT2.next l3) o6.len.2 (by omega)).mono ?_
      rintro e w4 ⟨A7, c7, A8, c8, bk, sk, hbk, hsk, rfl, o7, o8, l4⟩
      have HQ : Hid (decide (bk = ts) = true) := by show _ = _; rw [hbk.out, hb.out, runesB_encs GG.out, HT0.out]; simp
      have zbk : bk.length ≤ 4194304 := by rw [hbk.out, runesB_len]; have := decs_le b; omega
      have l34 := bnext l3 l4
      go_wp2_with fail
      refine (encodeUnits_any (rg2.next l34) ig (by omega)).mono ?_
      rintro e w5 ⟨A9, c9, us, hus, rfl, o9, l5⟩
      have zu : us.length ≤ 2097152 := by rw [hus.out]; have := (encs16_len g).2; omega
      have HU : Hid (us = encs16 g) := hus
      have l35 := bnext l34 l5
      have r7 := (o7.next l5).rd
      have r45 := r4.next l35
      have ru := o9.rd
      have lw5 := bnext lw2 l35
      clear o6 o7 o8 o9 l3 l4 l5 l34 l35 hbk hb hus by_ rg2 r4 lw2 hT2
      go_wp2
      go_loopw [9, 10] (fun v9 v10 wr => ∃ (i m : Nat) (A9 : Option Addr) (c9 : Nat) (ds : List Int), i ≤ us.length ∧ m ≤ g.length ∧ v10 = .int .i64 ((i : Int) - 1) ∧ Hid (i = (encs16 (g.take m)).length) ∧ Hid (ds ++ encs16 (g.take m).reverse = encs16 g.reverse) ∧ v9 = .slice A9 ds.length c9 ∧ Own wr w5.heap.size 23 .u16 (.slice A9 ds.length c9) ds ∧ Below w5.heap.size w5 wr)
        (fun _ v10 _ => (intOf v10 + 1).toNat)
      case atStart => exact ⟨us.length, g.length, none, 0, [], Nat.le_refl _, Nat.le_refl _, by go_num, (by show _ = _; rw [List.take_length, HU.out]), (by show _ = _; rw [List.take_length]; rfl), rfl, Own.nil _ _ _ _, Below.refl _ _⟩
      case round =>
        obtain ⟨i, m, A10, c10, ds, hi1, hm, rfl, hI, hds, rfl, hown, hbel⟩ := hrel
        have hsz := hbel.size
        have zds : ds.length ≤ 2097152 := by
          have h1 := congrArg List.length hds.out
          rw [List.length_append] at h1
          have := (encs16_len g.reverse).2
          rw [List.length_reverse] at this; omega
        by_cases hi0 : 0 < i
        · obtain ⟨i', rfl⟩ : ∃ i', i = i' + 1 := ⟨i - 1, by omega⟩
          have e1 : ((i' + 1 : Nat) : Int) - 1 = (i' : Int) := by omega
          rw [e1]
          obtain ⟨m', hm', hst⟩ := back_step GG.out HU.out hm hI.out
          have h1 : (0 : Int) ≤ (i' : Int) := by omega
          have h2 : (i' : Int) < (us.length : Int) := by omega
          clear e1 hi0
          rcases hst with ⟨x, q1, q2, q3, q4⟩ | ⟨x, y, q0, q1, q2, q3, q4, q5⟩
          · obtain ⟨b1, off1, x', hA1, hb1, hx', hc1⟩ := (ru.next hbel).at_ (i := i') (by omega)
            rw [q1] at hx'; injection hx' with hx'
            subst hA1 hx'
            have HI' : Hid (i' = (encs16 (g.take m')).length) := q3.symm
            have HDS : ∀ ds1, ds1 = ds ++ [x] → ds1 ++ encs16 (g.take m').reverse = encs16 g.reverse := fun ds1 h => by
              rw [h, ← hds.out, q4]; simp
            have HDS' := Lib.hid HDS
            clear q1 q3 q4 hds hI HDS
            rcases (by omega : i' ≤ 0 ∨ 0 < i') with hz | hz
            · have h3 : ¬ (0 : Int) < (i' : Int) := by omega
              go_wp2_with (at_builtin; refine wpList_app1 _ rfl _ _ 22 rfl w5.heap.size 23 .u16 2 Tryd.underlying22 info_u16 x hown rfl rfl (by omega) (by unfold maxLen; omega) hsz ?_; intro A11 c11 ds1 w11 he1 hown1 hg1)
              have hb11 := hg1.below_new hown hsz
              clear hown hg1
              go_roundw
              case rel => exact ⟨i', m', A11, c11, ds1, by omega, by omega, by go_num, HI', HDS'.out ds1 he1.out, rfl, hown1, hbel.trans hb11⟩
              case measure => simp [intOf]
            · have h3 : (0 : Int) < (i' : Int) := by omega
              go_wp2_with (first
                | (go_at_call 16; refine (isSecond_any _ _).mono ?_; rw [q2]; rintro e w' ⟨rfl, rfl⟩)
                | (at_builtin; refine wpList_app1 _ rfl _ _ 22 rfl w5.heap.size 23 .u16 2 Tryd.underlying22 info_u16 x hown rfl rfl (by omega) (by unfold maxLen; omega) hsz ?_; intro A11 c11 ds1 w11 he1 hown1 hg1))
              have hb11 := hg1.below_new hown hsz
              clear hown hg1
              go_roundw
              case rel => exact ⟨i', m', A11, c11, ds1, by omega, by omega, by go_num, HI', HDS'.out ds1 he1.out, rfl, hown1, hbel.trans hb11⟩
              case measure => simp [intOf]
          · obtain ⟨j, rfl⟩ : ∃ j, i' = j + 1 := ⟨i' - 1, by omega⟩
            rw [show j + 1 - 1 = j by omega] at q1
            obtain ⟨b1, off1, x', hA1, hb1, hx', hc1⟩ := (ru.next hbel).at_ (i := j) (by omega)
            rw [q1] at hx'; injection hx' with hx'
            obtain ⟨b2, off2, y', hA2, hb2, hy', hc2⟩ := (ru.next hbel).at_ (i := j + 1) (by omega)
            rw [q2] at hy'; injection hy' with hy'
            subst hA1 hx' hy'
            injection hA2 with hA2; injection hA2 with e1 e2; subst e1 e2
            have HI' : Hid (j = (encs16 (g.take m')).length) := by show _ = _; omega
            have HDS : ∀ ds1, ds1 = ds ++ [x, y] → ds1 ++ encs16 (g.take m').reverse = encs16 g.reverse := fun ds1 h => by
              rw [h, ← hds.out, q5]; simp
            have HDS' := Lib.hid HDS
            have h3 : (0 : Int) < (j : Int) + 1 := by omega
            have h4 : (0 : Int) ≤ (j : Int) := by omega
            have h4' : (0 : Int) ≤ (j : Int) + 1 := by omega
            have h5 : (j : Int) < (us.length : Int) := by omega
            have h6 : (j : Int) + 1 < (us.length : Int) := by omega
            have e3 : ((j + 1 : Nat) : Int) = (j : Int) + 1 := by omega
            rw [e3]
            clear e3 h1 h2
            have v1 : IntKind.i64.wrap (j : Int) = (j : Int) := IntWalk.i64_in _ (by omega)
            have hq1 : (ds.length + [x, y].length) * 2 ≤ 140737488355328 := by simp; omega
            have hq2 : ds.length + [x, y].length ≤ maxLen := by unfold maxLen; simp; omega
            have HS5 : w5.heap.size ≤ (wr.alloc (.cells #[.int .u16 x, .int .u16 y] 23)).drew.heap.size := Nat.le_trans hsz ((Below.refl wr.heap.size wr).alloc (Nat.le_refl _) (.cells #[.int .u16 x, .int .u16 y] 23)).size
            clear q1 q2 q4 q5 hds hI HDS
            go_wp2_with (go_at_call 16; refine (isSecond_any _ _).mono ?_; rw [q3]; rintro e w' ⟨rfl, rfl⟩)
            go_region_law (first
              | (refine step_appRd (W := (wr.alloc (.cells #[.int .u16 x, .int .u16 y] 23)).drew) rfl (.tmp 51) (.tmp 61) 22 rfl w5.heap.size 23 .u16 2 Tryd.underlying22 info_u16 2 (Rd.two wr .u16 23 x y).drew 2 rfl (hown.alloc (.cells #[.int .u16 x, .int .u16 y] 23)) (by rfl) (by rfl) hq1 hq2 HS5 ?_; intro A11 c11 ds1 w11 he1 hown1 hg1))
            all_goals
              have hb11 : Below w5.heap.size wr w11 := by
                have h1 := hg1.below (base := w5.heap.size) (e := 23) (cs := ds.map (Value.int .u16)) (hown.v.alloc (.cells #[.int .u16 x, .int .u16 y] 23)) HS5
                have h2 : Below w5.heap.size wr (wr.alloc (.cells #[.int .u16 x, .int .u16 y] 23)) := (Below.refl w5.heap.size wr).alloc hsz _
                exact h2.trans ⟨h1.os, h1.tape, h1.output, h1.size, h1.block⟩
              clear hown hg1
              clear v1
              go_wp2
              go_roundw
              case rel => exact ⟨j, m', A11, c11, ds1, by omega, by omega, by go_num, HI', HDS'.out ds1 he1.out, rfl, hown1, hbel.trans hb11⟩
              case measure => simp [intOf]; omega
        · have hi00 : i = 0 := by omega
          subst hi00
          have hm0 : m = 0 := by
            have h1 := hI.out
            have h2 := (encs16_len (g.take m)).1
            rw [List.length_take] at h2; omega
          have HD : Hid (ds = encs16 g.reverse) := by show _ = _; rw [← hds.out, hm0]; simp [encs16_nil]
          clear hds hI hm0 hi0
          go_wp2_with fail
          refine (sameRunes_any (r7.next hbel) (r45.next hbel) (by omega)).mono ?_
          rw [HQ.out]
          rintro e w11 ⟨rfl, n11, rfl⟩
          have l11 := bdrewN hbel n11
          have rd := hown.rd.drewN n11
          have rt := r45.next l11
          clear hown hbel
          generalize wr.drewN n11 = w11 at *
          go_wp2_with fail
          refine (encodeUnits_any rt its (by omega)).mono ?_
          rintro e w12 ⟨A12, c12, u2, hu2, rfl, o12, l12⟩
          have HQ2 : Hid (decide (u2 = ds) = true) := by show _ = _; rw [hu2.out, HD.out, HT0.out]; simp
          have zu2 : u2.length ≤ 2097152 := by rw [hu2.out]; have := (encs16_len ts).2; omega
          go_wp2_with fail
          refine (sameUnits_any o12.rd (rd.next l12) (by omega)).mono ?_
          rw [HQ2.out]
          rintro e w13 ⟨rfl, n13, rfl⟩
          go_wp2
          go_ret
          exact ⟨rfl, bdrewN (bnext lw5 (bnext l11 l12)) n13⟩
end Go.Proofs.YtcbfbccmghdpgabDoor
