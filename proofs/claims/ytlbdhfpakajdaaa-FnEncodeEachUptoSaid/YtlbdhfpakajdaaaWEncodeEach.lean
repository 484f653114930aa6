/- FnEncodeEach: the walk. -/
import Derived.Test.YtlbdhfpakajdaaaEncEach
import Derived.Test.YtlbdhfpakajdaaaPlainEnds
import Derived.Test.YtlbdhfpakajdaaaStep2
set_option linter.unusedVariables false
namespace Go.Proofs.Ytlbdhfpakajdaaa
open Go.RowKit P

def noHalf (r : Int) : Bool := decide (r < 55296 ∨ 57343 < r)
theorem filter_take {p : Int → Bool} {xs : List Int} {k : Nat} {x : Int} (h : xs[k]? = some x) : (xs.take (k + 1)).filter p = (xs.take k).filter p ++ if p x = true then [x] else [] := by
  rw [take_succ h, List.filter_append]
  congr 1
  simp only [List.filter_cons, List.filter_nil]
theorem noHalf_len {r : Int} (h : noHalf r = true) : (len8 r < 0 ∧ (enc r).length = 3) ∨ (¬ len8 r < 0 ∧ len8 r = ((enc r).length : Int)) := by
  have h1 : r < 55296 ∨ 57343 < r := of_decide_eq_true h
  unfold len8
  by_cases hg : good r = true
  · right; rw [if_pos hg]; exact ⟨by omega, rfl⟩
  · left; rw [if_neg hg]
    rw [good_iff] at hg
    refine ⟨by omega, ?_⟩
    rw [enc, Lib.encodeRuneZ_bad (by omega)]; rfl

set_option maxRecDepth 100000 in
set_option maxHeartbeats 4000000 in
theorem encodeEach_walk {A B : Option Addr} {b xs : List Int} {c d : Nat} {w : World} (hb : Rd w .u8 A b) (hlb : b.length ≤ 1048576) (hx : Rd w .i32 B xs) (ix : I32 xs) (lx : xs.length ≤ 1048576) :
    Calls Try.prog 6 #[.slice A b.length c, .slice B xs.length d] w fun e w' => e = .returned (.bool true) ∧ Below w.heap.size w w' := by
  go_enter Try.func6, Try.ntmps6
  go_wp2
  go_loopw [5, 17] (fun v5 v17 wr => ∃ (k : Nat) (A5 : Option Addr) (c5 : Nat) (ls : List Int), k ≤ xs.length ∧ ls.length ≤ k ∧ v17 = .int .i64 k ∧ Hid (ls = (xs.take k).filter noHalf) ∧ v5 = .slice A5 ls.length c5 ∧ Own wr w.heap.size 21 .i32 (.slice A5 ls.length c5) ls ∧ Below w.heap.size w wr)
    (fun _ v17 _ => xs.length - (intOf v17).toNat)
  case atStart => exact ⟨0, _, 0, [], Nat.zero_le _, Nat.le_refl _, rfl, rfl, rfl, Own.empty _ _ _, (Below.refl _ _).alloc (Nat.le_refl _) _⟩
  case round =>
    obtain ⟨k, A5, c5, ls, hk, hlk, rfl, hL, rfl, hown, hbel⟩ := hrel
    have hsz := hbel.size
    by_cases hlt : k < xs.length
    · obtain ⟨b1, off1, x, rfl, hb1, hxk, hc1⟩ := (hx.next hbel).at_ hlt
      have HF := Lib.hid (filter_take (p := noHalf) hxk)
      have h1 : (k : Int) < (xs.length : Int) := by omega
      have hq1 : (ls.length + 1) * 4 ≤ 140737488355328 := by omega
      have hq2 : ls.length + 1 ≤ maxLen := by unfold maxLen; omega
      clear hxk
      rcases (by omega : x < 55296 ∨ (55296 ≤ x ∧ 57343 < x) ∨ (55296 ≤ x ∧ x ≤ 57343)) with h2 | ⟨h2, h3⟩ | ⟨h2, h3⟩
      · have HN : Hid (noHalf x = true) := by show _ = _; unfold noHalf; simp; omega
        go_wp2_with (at_builtin; refine wpList_app1 _ rfl _ _ 22 rfl w.heap.size 21 .i32 4 Try.underlying22 info_i32 x hown rfl rfl hq1 hq2 hsz ?_; intro A6 c6 ls1 w6 he1 hown1 hg1)
        have hb6 := hg1.below_new hown hsz
        have z1 : ls1.length ≤ k + 1 := by rw [he1.out, List.length_append]; simp; omega
        clear hown hg1
        go_roundw
        case rel => exact ⟨k + 1, A6, c6, ls1, by omega, z1, by go_num, by show _ = _; rw [he1.out, HF.out, HN.out, hL.out]; rfl, rfl, hown1, hbel.trans hb6⟩
        case measure => simp [intOf]; omega
      · have HN : Hid (noHalf x = true) := by show _ = _; unfold noHalf; simp; omega
        go_wp2_with (at_builtin; refine wpList_app1 _ rfl _ _ 22 rfl w.heap.size 21 .i32 4 Try.underlying22 info_i32 x hown rfl rfl hq1 hq2 hsz ?_; intro A6 c6 ls1 w6 he1 hown1 hg1)
        have hb6 := hg1.below_new hown hsz
        have z1 : ls1.length ≤ k + 1 := by rw [he1.out, List.length_append]; simp; omega
        clear hown hg1
        go_roundw
        case rel => exact ⟨k + 1, A6, c6, ls1, by omega, z1, by go_num, by show _ = _; rw [he1.out, HF.out, HN.out, hL.out]; rfl, rfl, hown1, hbel.trans hb6⟩
        case measure => simp [intOf]; omega
      · have HN : Hid (noHalf x = false) := by show _ = _; unfold noHalf; simp; omega
        go_wp2
        go_roundw
        case rel => exact ⟨k + 1, A5, c5, ls, by omega, by omega, by go_num, by show _ = _; rw [HF.out, HN.out, hL.out]; simp, rfl, hown, hbel⟩
        case measure => simp [intOf]; omega
    · have h1 : ¬ (k : Int) < (xs.length : Int) := by omega
      have HL : Hid (ls = xs.filter noHalf) := by show _ = _; rw [hL.out, List.take_of_length_le (by omega)]
      have zl : ls.length ≤ 1048576 := by omega
      have il : I32 ls := fun r hr => by rw [HL.out] at hr; exact ix r (List.mem_filter.1 hr).1
      have NH : Hid (∀ r ∈ ls, noHalf r = true) := by show ∀ r ∈ ls, noHalf r = true; rw [HL.out]; exact fun r hr => (List.mem_filter.1 hr).2
      have rl := hown.rd
      have rb := hb.next hbel
      clear hL hown hlk hk hlt hb hx
      generalize wr = w1 at *
      go_wp2_with fail
      refine (encodeEach_any rl il zl).mono ?_
      rintro e w2 ⟨A6, c6, vs, rfl, ov, pv, l2⟩
      have zv : Hid (vs.length = ls.length) := by show _ = _; rw [pv.1, List.length_map]
      have zv2 : vs.length ≤ 1048576 := by rw [zv.out]; exact zl
      go_wp2_with fail
      refine (byteLens_any (rl.next l2) (by omega)).mono ?_
      rintro e w3 ⟨A7, c7, ns, hns, rfl, o7, l3⟩
      have zn : Hid (ns.length = ls.length) := by show _ = _; rw [hns.out, List.length_map]
      have t1 : ((vs.length : Int) != (ls.length : Int)) = false := by simp only [bne_eq_false_iff_eq]; rw [zv.out]
      have t2 : ((ns.length : Int) != (ls.length : Int)) = false := by simp only [bne_eq_false_iff_eq]; rw [zn.out]
      have l23 := bnext l2 l3
      go_wp2_with fail
      refine (copied_any (rb.next l23) (by omega)).mono ?_
      rintro e w4 ⟨A8, c8, b4, hb4, rfl, o8, l4⟩
      have rv := (ov.next l3).rdv
      have pv3 := pv.next l3
      have rn := o7.rd
      have rb3 := rb.next l23
      have rl3 := rl.next l23
      have lw3 := bnext hbel l23
      have HW0 : Hid (b4 = b ++ encs (ls.take 0)) := by show _ = _; rw [hb4.out]; simp [encs_nil]
      have zb4 : b4.length ≤ 1048576 + 4 * 0 := by rw [hb4.out]; omega
      clear ov pv o7 l2 l3 l23 rl rb hbel hb4
      go_wp2
      go_loopw [10, 52] (fun v10 v52 wr => ∃ (k : Nat) (A8 : Option Addr) (c8 : Nat) (wt : List Int), k ≤ ls.length ∧ v52 = .int .i64 k ∧ Hid (wt = b ++ encs (ls.take k)) ∧ wt.length ≤ 1048576 + 4 * k ∧ v10 = .slice A8 wt.length c8 ∧ Own wr w3.heap.size 5 .u8 (.slice A8 wt.length c8) wt ∧ Below w3.heap.size w3 wr)
        (fun _ v52 _ => ls.length - (intOf v52).toNat)
      case atStart => exact ⟨0, A8, c8, b4, Nat.zero_le _, rfl, HW0, zb4, rfl, o8, l4⟩
      case round =>
        clear o8 l4 HW0 zb4
        obtain ⟨k, A9, c9, wt, hk, rfl, hW, zw, rfl, hown, hbel⟩ := hrel
        have hsz := hbel.size
        by_cases hlt : k < ls.length
        · obtain ⟨b1, off1, v, hA1, hb1, hv, hc1⟩ := (rv.next hbel).at_ (i := k) (by rw [zv.out]; exact hlt)
          obtain ⟨l, Ap, cp, hl, hvp, op⟩ := (pv3.next hbel).at_ (j := k) (by rw [List.length_map]; exact hlt)
          obtain ⟨b2, off2, n, hA2, hb2, hn, hc2⟩ := (rn.next hbel).at_ (i := k) (by rw [zn.out]; exact hlt)
          have hr : ls[k]? = some ls[k] := List.getElem?_eq_getElem hlt
          have hnh := NH.out _ (List.getElem_mem hlt)
          generalize ls[k] = r at *
          rw [hv] at hvp; injection hvp with hvp
          rw [List.getElem?_map, hr] at hl
          simp only [Option.map_some, Option.some.injEq] at hl
          subst hl hvp
          have hnn : n = len8 r := by rw [hns.out, List.getElem?_map, hr] at hn; simpa using hn.symm
          subst hnn hA1 hA2
          have HT : Hid (encs (ls.take (k + 1)) = encs (ls.take k) ++ enc r) := by show _ = _; rw [take_succ hr, encs_append]; simp [encs]
          have hln := noHalf_len hnh
          have el := (enc_len r).2
          have rp := op.rd
          have h2 : (k : Int) < (vs.length : Int) := by rw [zv.out]; omega
          have h3 : (k : Int) < (ns.length : Int) := by rw [zn.out]; omega
          have h4 : (0 : Int) ≤ (k : Int) := by omega
          have hq1 : (wt.length + (enc r).length) * 1 ≤ 140737488355328 := by omega
          have hq2 : wt.length + (enc r).length ≤ maxLen := by unfold maxLen; omega
          clear hv hn hr hnh op
          rcases hln with ⟨p1, p2⟩ | ⟨p1, p2⟩
          · have h5 : (((enc r).length : Int) != 3) = false := by simp only [bne_eq_false_iff_eq]; omega
            have P2 := Lib.hid p2
            clear p2
            go_wp2_with (at_builtin; refine wpList_appRd _ rfl _ _ 26 rfl w3.heap.size 5 .u8 1 Try.underlying26 info_u8 cp rp _ rfl hown rfl rfl hq1 hq2 hsz ?_; intro A10 c10 wt1 w10 he1 hown1 hg1)
            have hb10 := hg1.below_ hown hsz
            have z1 : wt1.length ≤ 1048576 + 4 * (k + 1) := by rw [he1.out, List.length_append]; omega
            clear hown hg1
            go_roundw
            case rel => exact ⟨k + 1, A10, c10, wt1, by omega, by go_num, by show _ = _; rw [he1.out, hW.out, HT.out, List.append_assoc], z1, rfl, hown1, hbel.trans hb10⟩
            case measure => simp [intOf]; omega
          · rw [p2] at hc2 p1
            have h5 : (((enc r).length : Int) != ((enc r).length : Int)) = false := by simp
            clear p2
            go_wp2_with (at_builtin; refine wpList_appRd _ rfl _ _ 26 rfl w3.heap.size 5 .u8 1 Try.underlying26 info_u8 cp rp _ rfl hown rfl rfl hq1 hq2 hsz ?_; intro A10 c10 wt1 w10 he1 hown1 hg1)
            have hb10 := hg1.below_ hown hsz
            have z1 : wt1.length ≤ 1048576 + 4 * (k + 1) := by rw [he1.out, List.length_append]; omega
            clear hown hg1
            go_roundw
            case rel => exact ⟨k + 1, A10, c10, wt1, by omega, by go_num, by show _ = _; rw [he1.out, hW.out, HT.out, List.append_assoc], z1, rfl, hown1, hbel.trans hb10⟩
            case measure => simp [intOf]; omega
        · have h2 : ¬ (k : Int) < (vs.length : Int) := by rw [zv.out]; omega
          have HW : Hid (wt = b ++ encs ls) := by show _ = _; rw [hW.out, List.take_of_length_le (by omega)]
          clear hW
          go_wp2_with fail
          refine (copied_any (rb3.next hbel) (by omega)).mono ?_
          rintro e w11 ⟨A11, c11, b11, hb11, rfl, o11, l11⟩
          have zb11 : b11.length ≤ 1048576 := by rw [hb11.out]; omega
          go_wp2_with fail
          refine (appendBytes_any o11.rd (rl3.next (bnext hbel l11)) il (by omega)).mono ?_
          rintro e w12 ⟨A12, c12, d12, hd12, rfl, o12, l12⟩
          have HQ : Hid (decide (d12 = wt) = true) := by show _ = _; rw [hd12.out, hb11.out, HW.out]; simp
          have zd12 : d12.length ≤ 8388608 := by rw [hd12.out, List.length_append]; have := (encs_len ls).2; omega
          have l1112 := bnext l11 l12
          go_wp2_with fail
          refine (sameBytes_any o12.rd (hown.next l1112).rd (by omega)).mono ?_
          rw [HQ.out]
          rintro e w13 ⟨rfl, n13, rfl⟩
          have l13 := bdrewN (bnext hbel l1112) n13
          generalize w12.drewN n13 = w13 at *
          go_wp2_with fail
          refine (appendNil_any (rs := [97]) (Rd.one w13 .i32 21 97) (fun x hx => by simp at hx; omega) (by simp)).mono ?_
          rintro e w17 ⟨A18, c18, a1, ha1, rfl, o18, l18⟩
          have za1 : a1.length = 1 := by rw [ha1.out]; rfl
          have t5 : ((a1.length : Int) == 1) = true := by simp only [beq_iff_eq]; omega
          have ZA := Lib.hid za1
          clear za1
          go_wp2
          go_ret
          exact ⟨rfl, bnext lw3 (bnext l13 (bnext ((Below.refl _ _).alloc (Nat.le_refl _) _) l18))⟩
end Go.Proofs.Ytlbdhfpakajdaaa
