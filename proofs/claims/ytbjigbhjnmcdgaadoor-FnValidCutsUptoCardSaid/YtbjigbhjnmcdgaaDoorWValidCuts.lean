/- FnValidCuts: the walk. -/
import Derived.Test.YtbjigbhjnmcdgaaDoorValidEach
import Derived.Test.YtbjigbhjnmcdgaaDoorPlainValid
import Derived.Test.YtbjigbhjnmcdgaaDoorCutInto
import Derived.Test.YtbjigbhjnmcdgaaDoorCounts
import Derived.Test.YtbjigbhjnmcdgaaDoorWGoods
set_option linter.unusedVariables false
namespace Go.Proofs.YtbjigbhjnmcdgaaDoor
open Go.RowKit P

theorem isContinued_any (b : Int) (h0 : 0 ≤ b) (h1 : b < 256) (w : World) : Calls Tryd.prog 19 #[.int .u8 b] w fun e w' => e = .returned (.bool (isC b)) ∧ w = w' := by
  go_enter Tryd.func19, Tryd.ntmps19
  go_wp2
  go_ret
  exact ⟨ret_bool (Bool.not_inj (and_u8 b h0 h1)), rfl⟩
set_option maxHeartbeats 400000 in
theorem summed_big {A : Option Addr} {xs : List Int} {c : Nat} {w : World} (hx : Rd w .i64 A xs) (hi : ∀ x ∈ xs, 0 ≤ x ∧ x ≤ 10000000) (hl : xs.length ≤ 100000000) :
    Calls Tryd.prog 9 #[.slice A xs.length c] w fun e w' => e = .returned (.int .i64 xs.sum) ∧ w = w' := by
  go_enter Tryd.func9, Tryd.ntmps9
  go_wp2
  go_loop [3, 8] (fun s i => ∃ (k : Nat) (t : Int), k ≤ xs.length ∧ i = .int .i64 k ∧ Hid (t = (xs.take k).sum) ∧ s = .int .i64 t) (fun _ i => xs.length - (intOf i).toNat)
  case atStart => exact ⟨0, 0, Nat.zero_le _, rfl, by show _ = _; simp, rfl⟩
  case round =>
    obtain ⟨k, t, hk, rfl, ht, rfl⟩ := hrel
    have htb := sum_bound 0 10000000 (xs.take k) (fun x hx => hi x (List.mem_of_mem_take hx))
    have htl := List.length_take_le k xs
    rw [← ht.out] at htb
    have ht0 : 0 ≤ t := by omega
    have ht1 : t ≤ 10000000 * (k : Int) := by omega
    clear htb htl
    by_cases hlt : k < xs.length
    · obtain ⟨b, off, x, rfl, hb, hxk, hcx⟩ := hx.at_ hlt
      have hbd := hi x (mem_at hxk)
      have hbd0 := hbd.1
      have hbd1 := hbd.2
      have HX := Lib.hid hxk
      clear hxk hbd
      have h1 : (k : Int) < (xs.length : Int) := by omega
      go_wp2
      go_round
      case rel => exact ⟨k + 1, t + x, by omega, by go_num, by show _ = _; rw [take_succ HX.out, List.sum_append, ht.out]; simp, rfl⟩
      case measure => simp [intOf]; omega
    · have h1 : ¬ (k : Int) < (xs.length : Int) := by omega
      go_wp2
      go_ret
      refine ⟨ret_int ?_, rfl⟩
      rw [ht.out, List.take_of_length_le (by omega)]
theorem all_step {f : List Int → Bool} {ls : List (List Int)} {k : Nat} {p : List Int} (h : ls[k]? = some p) : (ls.take (k + 1)).all f = ((ls.take k).all f && f p) := by
  rw [List.take_add_one, h]; simp

set_option maxRecDepth 100000 in
set_option maxHeartbeats 4000000 in
theorem validCuts_walk {A B : Option Addr} {xs ns : List Int} {c d : Nat} {w : World} (hx : Rd w .i32 A xs) (hi : I32 xs) (hl : xs.length ≤ 1048576) (hB : Rd w .u8 B ns) (hy : Bytes ns) (hn : ns.length ≤ 1048576) (hT : Tabs w) :
    Calls Tryd.prog 4 #[.slice A xs.length c, .slice B ns.length d] w fun e w' => e = .returned (.bool true) ∧ Below w.heap.size w w' := by
  go_enter Tryd.func4, Tryd.ntmps4
  go_wp2_with fail
  refine (goodOnes_any hx (by omega)).mono ?_
  rintro e w1 ⟨A1, c1, g, hg, rfl, o1, l1⟩
  have ig := hi.good hg.out
  have zg : g.length ≤ 1048576 := by rw [hg.out]; have := filter_le xs; omega
  have GG : Hid (∀ r ∈ g, good r = true) := fun r hr => by rw [hg.out] at hr; exact (List.mem_filter.1 hr).2
  go_wp2_with fail
  refine (appendNil_any o1.rd ig (by omega)).mono ?_
  rintro e w2 ⟨A2, c2, b, hb, rfl, o2, l2⟩
  have zb : b.length ≤ 4194304 := by rw [hb.out]; have := (encs_len g).2; omega
  have yb : Bytes b := by rw [hb.out]; exact encs_bytes g
  have l12 := bnext l1 l2
  go_wp2_with fail
  refine (cutInto_any o2.rd rfl o2.len.2 (hB.next l12) hy (by omega) (by omega)).mono ?_
  rintro e w3 ⟨A3, c3, vs, rfl, ov, pv, l3⟩
  obtain ⟨ls, hls⟩ : ∃ ls, cutB b ns = ls := ⟨_, rfl⟩
  have hLS := cutB_each yb ns
  have hfl := cutB_flat b ns
  have hln := cutB_len b ns
  rw [hls] at pv hLS hfl hln
  rw [hb.out] at hfl
  have HL := Lib.hid (valid_cuts GG.out hfl)
  have ZV : Hid (vs.length = ls.length) := pv.1
  have zvs : vs.length ≤ 1048577 := by rw [ZV.out, hln]; omega
  have HBY := Lib.hid hLS
  have l13 := bnext l12 l3
  have rv := ov.rdv
  have hT3 := hT.next l13
  clear hls hfl hln hLS hb o1 o2 l1 l2 l3 l12 ov hx hB hT ig hg
  go_wp2_with fail
  refine (validEach_any rv pv (fun l h => (HBY.out l h).1) hT3 (by omega)).mono ?_
  rintro e w4 ⟨A4, c4, va, hva, rfl, o4, l4⟩
  go_wp2_with fail
  refine (countEach_any (rv.next l4) (pv.next l4) (fun l h => ⟨(HBY.out l h).1, by have := (HBY.out l h).2; omega⟩) (by omega)).mono ?_
  rintro e w5 ⟨A5, c5, cs, hcs, rfl, o5, l5⟩
  have l45 := bnext l4 l5
  have l15 := bnext l13 l45
  have ZA : Hid (va.length = vs.length) := by show _ = _; rw [hva.out, List.length_map, ZV.out]
  have ZC : Hid (cs.length = vs.length) := by show _ = _; rw [hcs.out, List.length_map, ZV.out]
  have t1 : ((va.length : Int) != (vs.length : Int)) = false := by simp only [bne_eq_false_iff_eq]; rw [ZA.out]
  have t2 : ((cs.length : Int) != (vs.length : Int)) = false := by simp only [bne_eq_false_iff_eq]; rw [ZC.out]
  have rva := (o4.next l5).rd
  have rcs := o5.rd
  have rv5 := rv.next l45
  have pv5 := pv.next l45
  obtain ⟨AL, hAL⟩ : ∃ AL : Nat → Bool, AL = fun k => (ls.take k).all vld := ⟨_, rfl⟩
  obtain ⟨DU, hDU⟩ : ∃ DU : Nat → Bool, DU = fun k => (ls.take k).all startsB := ⟨_, rfl⟩
  have HAL := Lib.hid hAL
  have HDU := Lib.hid hDU
  have hA0 : AL 0 = true := by rw [hAL]; rfl
  have hD0 : DU 0 = true := by rw [hDU]; rfl
  have HA0 := Lib.hid hA0
  have HD0 := Lib.hid hD0
  clear hAL hDU hA0 hD0 o4 o5 l4 l5 l45 l13 rv pv hT3
  go_wp2
  go_loopw [9, 10, 37] (fun v9 v10 v37 wr => ∃ k : Nat, k ≤ vs.length ∧ v37 = .int .i64 k ∧ v9 = .bool (AL k) ∧ v10 = .bool (DU k) ∧ Below w5.heap.size w5 wr) (fun _ _ v37 _ => vs.length - (intOf v37).toNat)
  case atStart => exact ⟨0, Nat.zero_le _, rfl, by rw [HA0.out], by rw [HD0.out], Below.refl _ _⟩
  case round =>
    obtain ⟨k, hk, rfl, rfl, rfl, hbel⟩ := hrel
    by_cases hlt : k < vs.length
    · have h1 : (k : Int) < (vs.length : Int) := by omega
      have h2 : (k : Int) < (va.length : Int) := by rw [ZA.out]; omega
      obtain ⟨b1, off1, v, hA1, hb1, hvk, hcv⟩ := (rv5.next hbel).at_ hlt
      obtain ⟨p, Ap, cp, hlk, hvp, op⟩ := (pv5.next hbel).at_ (j := k) (by rw [← ZV.out]; exact hlt)
      rw [hvk] at hvp; injection hvp with hvp
      obtain ⟨b2, off2, q, hA2, hb2, hq, hc2⟩ := (rva.next hbel).at_ (i := k) (by rw [ZA.out]; exact hlt)
      subst hvp hA1 hA2
      have hqv : q = vld p := by
        rw [hva.out, List.getElem?_map, hlk] at hq
        exact (Option.some.inj hq).symm
      have HAS : Hid (AL (k + 1) = (AL k && q)) := by show _ = _; rw [HAL.out, hqv]; exact all_step hlk
      have HDS : Hid (DU (k + 1) = (DU k && startsB p)) := by show _ = _; rw [HDU.out]; exact all_step hlk
      have hpb := (HBY.out p (List.mem_of_getElem? hlk)).1
      have rp := op.rd
      clear hvk hlk hq hqv op
      cases p with
      | nil =>
        have hp0 : (([] : List Int).length : Int) = 0 := rfl
        by_cases hal : AL k = true
        · rw [hal]
          by_cases hdu : DU k = true
          · rw [hdu]
            go_wp2
            go_roundw
            case rel => exact ⟨k + 1, by omega, by go_num, by rw [HAS.out, hal]; simp, by rw [HDS.out, hdu]; simp [startsB], hbel⟩
            case measure => simp [intOf]; omega
          · have hdu : DU k = false := by simpa using hdu
            rw [hdu]
            go_wp2
            go_roundw
            case rel => exact ⟨k + 1, by omega, by go_num, by rw [HAS.out, hal]; simp, by rw [HDS.out, hdu]; rfl, hbel⟩
            case measure => simp [intOf]; omega
        · have hal : AL k = false := by simpa using hal
          rw [hal]
          by_cases hdu : DU k = true
          · rw [hdu]
            go_wp2
            go_roundw
            case rel => exact ⟨k + 1, by omega, by go_num, by rw [HAS.out, hal]; rfl, by rw [HDS.out, hdu]; simp [startsB], hbel⟩
            case measure => simp [intOf]; omega
          · have hdu : DU k = false := by simpa using hdu
            rw [hdu]
            go_wp2
            go_roundw
            case rel => exact ⟨k + 1, by omega, by go_num, by rw [HAS.out, hal]; rfl, by rw [HDS.out, hdu]; rfl, hbel⟩
            case measure => simp [intOf]; omega
      | cons x t =>
        have hxb := hpb x (by simp)
        have hx0 := hxb.1
        have hx1 := hxb.2
        obtain ⟨b3, off3, hA3, hb3, hc3⟩ := rp (by simp)
        have hcx : wr.cell? ⟨b3, off3, none⟩ = some (.int .u8 x) := by simpa using hc3 0 x rfl
        subst hA3
        obtain ⟨m, hm, hm0⟩ : ∃ m, (x :: t).length = m ∧ 0 < m := ⟨_, rfl, by simp⟩
        have hm1 : ((m : Int) == 0) = false := by simp only [beq_eq_false_iff_ne, ne_eq]; omega
        have hm2 : (0 : Int) < (m : Int) := by omega
        rw [hm] at hcv
        clear hc3 hxb rp hpb hm
        by_cases hal : AL k = true
        · rw [hal]
          by_cases hdu : DU k = true
          · rw [hdu]
            go_wp2_with (go_at_call 19; refine (isContinued_any x hx0 hx1 _).mono ?_; rintro e W1 ⟨rfl, rfl⟩)
            go_roundw
            case rel => exact ⟨k + 1, by omega, by go_num, by rw [HAS.out, hal]; simp, by rw [HDS.out, hdu]; simp [startsB], hbel⟩
            case measure => simp [intOf]; omega
          · have hdu : DU k = false := by simpa using hdu
            rw [hdu]
            go_wp2
            go_roundw
            case rel => exact ⟨k + 1, by omega, by go_num, by rw [HAS.out, hal]; simp, by rw [HDS.out, hdu]; rfl, hbel⟩
            case measure => simp [intOf]; omega
        · have hal : AL k = false := by simpa using hal
          rw [hal]
          by_cases hdu : DU k = true
          · rw [hdu]
            go_wp2_with (go_at_call 19; refine (isContinued_any x hx0 hx1 _).mono ?_; rintro e W1 ⟨rfl, rfl⟩)
            go_roundw
            case rel => exact ⟨k + 1, by omega, by go_num, by rw [HAS.out, hal]; rfl, by rw [HDS.out, hdu]; simp [startsB], hbel⟩
            case measure => simp [intOf]; omega
          · have hdu : DU k = false := by simpa using hdu
            rw [hdu]
            go_wp2
            go_roundw
            case rel => exact ⟨k + 1, by omega, by go_num, by rw [HAS.out, hal]; rfl, by rw [HDS.out, hdu]; rfl, hbel⟩
            case measure => simp [intOf]; omega
    · have h1 : ¬ (k : Int) < (vs.length : Int) := by omega
      have hke : k = vs.length := by omega
      have hlsk : ls.take k = ls := List.take_of_length_le (by rw [hke, ZV.out]; exact Nat.le_refl _)
      have hAk : AL k = ls.all vld := by rw [HAL.out]; show (ls.take k).all vld = _; rw [hlsk]
      have hDk : DU k = ls.all startsB := by rw [HDU.out]; show (ls.take k).all startsB = _; rw [hlsk]
      obtain ⟨e1, e2⟩ := HL.out
      rw [← hAk, ← hDk] at e1
      rw [← hAk] at e2
      have l16 := bnext l15 hbel
      have rc := rcs.next hbel
      clear hke hlsk hAk hDk
      by_cases hal : AL k = true
      · have hdu : DU k = true := by rw [← e1]; exact hal
        have hsum := e2 hal
        rw [hal, hdu]
        have HS : Hid (cs.sum = (g.length : Int)) := by show _ = _; rw [hcs.out]; exact hsum
        have hcb : ∀ x ∈ cs, 0 ≤ x ∧ x ≤ 10000000 := fun x hx => by
          rw [hcs.out] at hx
          obtain ⟨p, hp, rfl⟩ := List.mem_map.1 hx
          have h1 := decs_le p
          have h2 := (HBY.out p hp).2
          omega
        have zc : cs.length ≤ 100000000 := by rw [ZC.out]; omega
        have HCS := Lib.hid (summed_big (c := c5) rc hcb zc)
        rw [HS.out] at HCS
        clear hal hdu hsum e1 e2 hcb
        go_wp2_with fail
        refine HCS.out.mono ?_
        rintro e W1 ⟨rfl, rfl⟩
        go_wp2
        go_ret
        exact ⟨rfl, l16⟩
      · have hal : AL k = false := by simpa using hal
        have hdu : DU k = false := by rw [← e1]; exact hal
        rw [hal, hdu]
        clear hal hdu e1 e2
        go_wp2
        go_ret
        exact ⟨rfl, l16⟩
end Go.Proofs.YtbjigbhjnmcdgaaDoor
