/- FnBytesAcross: the walk. -/
import Derived.Test.YtcbfbccmghdpgabDoorPlainAcross
import Derived.Test.YtcbfbccmghdpgabDoorBytes
import Derived.Test.YtcbfbccmghdpgabDoorUnits2
import Derived.Test.YtcbfbccmghdpgabDoorQuiet
set_option linter.unusedVariables false
namespace Go.Proofs.YtcbfbccmghdpgabDoor
open Go.RowKit P

theorem run_cut_n {P : Program} {w : World} (t e : TypeId) (ht : P.underlying t = some (.slice e)) (i : TypeInfo) (hi : P.info? e = some i) (hs : i.size = 1) (A : Option Addr) (len cap lo n : Nat) (z z' : Int) (hz : z = (lo : Int)) (hz' : z' = (lo : Int) + (n : Int)) (h2 : lo + n ≤ cap) :
    (Instr.slice t (.slice A len cap) (some (.int .i64 z)) (some (.int .i64 z')) none).run P w = .ok (.slice (cutA A cap lo) n (cap - lo)) w := by
  subst hz hz'
  have h := run_cut (P := P) (w := w) t e ht i hi hs A len cap lo (lo + n) (by omega) h2
  rw [show lo + n - lo = n by omega] at h
  simpa using h

set_option maxRecDepth 100000 in
set_option maxHeartbeats 2000000 in
theorem bytesAcross_walk {A : Option Addr} {l : List Int} {c : Nat} {w : World} (hr : Rd w .u8 A l) (hb : Bytes l) (hT : Tabs w) (hcap : l.length ≤ c) (hl : l.length ≤ 1048576) :
    Calls Tryd.prog 12 #[.slice A l.length c] w fun e w' => e = .returned (.bool true) ∧ Below w.heap.size w w' := by
  obtain ⟨j8, hj8, _, hs8, _⟩ := info_parts info_u8
  have J8 := Lib.hid (And.intro hj8 hs8)
  have BY := Lib.hid hb
  clear hj8 hs8
  go_enter Tryd.func12, Tryd.ntmps12
  go_wp2_with fail
  refine (decodeBytes_any hr hb hT hcap (by omega)).mono ?_
  rintro e w1 ⟨A1, c1, A2, c2, rs, ss, hrs, hss, rfl, o1, o2, l1⟩
  have zr : rs.length ≤ 1048576 := by rw [hrs.out, runes8_len]; have := decs_le l; omega
  have ZS : Hid (ss.length = (decs l).length) := by show _ = _; rw [hss.out, sizes8_len]
  have ZR : Hid (rs.length = (decs l).length) := by show _ = _; rw [hrs.out, runes8_len]
  have zs : ss.length ≤ 1048576 := by rw [ZS.out]; have := decs_le l; omega
  have t1 : ((rs.length : Int) != (ss.length : Int)) = false := by simp only [bne_eq_false_iff_eq]; rw [ZS.out, ZR.out]
  have i32 := runes8_i32 hb hrs.out
  have gr : ∀ r ∈ rs, good r = true := by rw [hrs.out]; exact runes8_good _ l (Nat.le_refl _) hb
  have GR := Lib.hid gr
  clear gr
  go_wp2_with fail
  refine (encodeUnits_any o1.rd i32 (by omega)).mono ?_
  rintro e w2 ⟨A3, c3, us, hus, rfl, o3, l2⟩
  have zu : us.length ≤ 2097152 := by rw [hus.out]; have := (encs16_len rs).2; omega
  have wu : Units us := by rw [hus.out]; exact encs16_units rs
  go_wp2_with fail
  refine (decodeUnits_any o3.rd wu (by omega) (by have := dec16_le us; omega)).mono ?_
  rintro e w3 ⟨A4, c4, d, hd, rfl, o4, l3⟩
  have HD : Hid (d = rs) := by show _ = _; rw [hd.out, hus.out, dec16_encs16', map_fix_good GR.out]
  have zd : d.length ≤ 1048576 := by rw [HD.out]; exact zr
  go_wp2_with fail
  refine (appendNil_any o4.rd (by rw [HD.out]; exact i32) (by omega)).mono ?_
  rintro e w4 ⟨A5, c5, bk, hbk, rfl, o5, l4⟩
  have HK : Hid (bk = encs (runes8 l)) := by show _ = _; rw [hbk.out, HD.out, hrs.out]
  have zk : bk.length ≤ 4194304 := by rw [hbk.out]; have := (encs_len d).2; omega
  have l24 := bnext (bnext l2 l3) l4
  have l04 := bnext l1 l24
  have rb := hr.next l04
  have rr := (o1.next l24).rd
  have rs_ := (o2.next l24).rd
  have rk := o5.rd
  clear o1 o2 o3 o4 o5 l1 l2 l3 l4 l24 hr hus hd hbk wu i32 hb GR
  go_wp2
  go_loopw [6, 7, 26] (fun v6 v7 v26 wr => ∃ (k at_ : Nat) (A : Option Addr) (c : Nat) (acc : List Int), k ≤ ss.length ∧ at_ ≤ l.length ∧ v7 = .int .i64 at_ ∧ v26 = .int .i64 k ∧ Hid (decs (l.drop at_) = (decs l).drop k) ∧ Hid (acc ++ encs (runes8 (l.drop at_)) = bk) ∧ v6 = .slice A acc.length c ∧ Own wr w4.heap.size 5 .u8 (.slice A acc.length c) acc ∧ Below w4.heap.size w4 wr)
    (fun _ _ v26 _ => ss.length - (intOf v26).toNat)
  case atStart => exact ⟨0, 0, none, 0, [], Nat.zero_le _, Nat.zero_le _, rfl, rfl, rfl, HK.out.symm, rfl, Own.nil _ _ _ _, Below.refl _ _⟩
  case round =>
    obtain ⟨k, at_, A6, c6, acc, hk, hat, rfl, rfl, hD, hacc, rfl, hown, hbel⟩ := hrel
    have hsz := hbel.size
    have hle : acc.length ≤ 4194304 := by
      have := congrArg List.length hacc.out
      rw [List.length_append] at this; omega
    by_cases hlt : k < ss.length
    · obtain ⟨r, n, q1, q2, q3, q4, q5, q6, q7, q8, q9⟩ := across_step BY.out hrs.out hss.out hat hD.out (by rw [← ZS.out]; exact hlt)
      obtain ⟨b1, off1, n', hA1, hb1, hn', hc1⟩ := (rs_.next hbel).at_ hlt
      rw [q2] at hn'; injection hn' with hn'
      obtain ⟨b2, off2, r', hA2, hb2, hr', hc2⟩ := (rr.next hbel).at_ (i := k) (by rw [ZR.out, ← ZS.out]; exact hlt)
      rw [q1] at hr'; injection hr' with hr'
      subst hA1 hA2 hn' hr'
      have hna : acc.length + n ≤ 8388608 := by omega
      have Q6 := Lib.hid q6
      have Q7 := Lib.hid q7
      have h1 : (k : Int) < (ss.length : Int) := by omega
      have h2 : (k : Int) < (rs.length : Int) := by rw [ZR.out, ← ZS.out]; omega
      have h0 : (0 : Int) ≤ (k : Int) := by omega
      clear q1 q2 q6 q7 q8
      rcases q9 with ⟨e1, e2⟩ | ⟨e1, e2⟩
      · subst e1 e2
        go_wp2_with (at_builtin; refine wpList_appN _ rfl _ _ 29 rfl w4.heap.size 5 .u8 1 Tryd.underlying29 info_u8 [239, 191, 189] rfl 3 rfl hown rfl rfl (by omega) (by unfold maxLen; omega) hsz ?_; intro A7 c7 acc1 w7 he1 hown1 hg1)
        have hb7 := hg1.below_new hown hsz
        clear hown hg1
        go_roundw
        case rel =>
          refine ⟨k + 1, at_ + 1, A7, c7, acc1, by omega, by omega, by go_num, by go_num, Q6, ?_, rfl, hown1, hbel.trans hb7⟩
          show _ = _
          rw [he1.out, ← hacc.out, Q7.out, encs_cons, enc_fffd]; simp [markB]
        case measure => simp [intOf]; omega
      · have HE := Lib.hid e2
        have hcut := fun W => run_cut_n (P := Tryd.prog) (w := W) 29 5 Tryd.underlying29 j8 J8.out.1 J8.out.2 A l.length c at_ n (at_ : Int) ((at_ : Int) + (n : Int)) rfl rfl (by omega)
        have hrd := ((rb.next hbel).drop c at_ hcap).take n
        have hrl : ((l.drop at_).take n).length = n := by rw [List.length_take, List.length_drop]; omega
        rw [e2] at hrd hrl
        have HL := Lib.hid hrl
        have hbd : (acc.length + (enc r).length) * 1 ≤ 140737488355328 := by rw [hrl]; omega
        have hbm : acc.length + (enc r).length ≤ maxLen := by unfold maxLen; rw [hrl]; omega
        clear hrl e2
        rcases (by omega : n = 1 ∨ 2 ≤ n) with hn1 | hn1
        · have hr0 : (r == 65533) = false := by simp only [beq_eq_false_iff_ne, ne_eq]; exact fun h => e1 ⟨hn1, h⟩
          have hn0 : ((n : Int) == 1) = true := by simp only [beq_iff_eq]; omega
          clear e1 hn1
          go_wp2_with (at_builtin; refine wpList_appRd _ rfl _ _ 29 rfl w4.heap.size 5 .u8 1 Tryd.underlying29 info_u8 (c - at_) hrd _ HL.out hown rfl rfl hbd hbm hsz ?_; intro A7 c7 acc1 w7 he1 hown1 hg1)
          have hb7 := hg1.below_ hown hsz
          clear hown hg1
          go_roundw
          case rel =>
            refine ⟨k + 1, at_ + n, A7, c7, acc1, by omega, by omega, by go_num, by go_num, Q6, ?_, rfl, hown1, hbel.trans hb7⟩
            show _ = _
            rw [he1.out, ← hacc.out, Q7.out, encs_cons]; simp
          case measure => simp [intOf]; omega
        · have hn0 : ((n : Int) == 1) = false := by simp only [beq_eq_false_iff_ne, ne_eq]; omega
          clear e1
          go_wp2_with (at_builtin; refine wpList_appRd _ rfl _ _ 29 rfl w4.heap.size 5 .u8 1 Tryd.underlying29 info_u8 (c - at_) hrd _ HL.out hown rfl rfl hbd hbm hsz ?_; intro A7 c7 acc1 w7 he1 hown1 hg1)
          have hb7 := hg1.below_ hown hsz
          clear hown hg1
          go_roundw
          case rel =>
            refine ⟨k + 1, at_ + n, A7, c7, acc1, by omega, by omega, by go_num, by go_num, Q6, ?_, rfl, hown1, hbel.trans hb7⟩
            show _ = _
            rw [he1.out, ← hacc.out, Q7.out, encs_cons]; simp
          case measure => simp [intOf]; omega
    · have h1 : ¬ (k : Int) < (ss.length : Int) := by omega
      have hae := across_end hat hD.out (by rw [← ZS.out]; omega)
      have hfin : bk = acc := by
        rw [← hacc.out, hae, List.drop_length]; simp [runes8, decs_nil, encs_nil]
      have HF : Hid (decide (bk = acc) = true) := by show _ = _; rw [hfin]; simp
      have h2 : ((at_ : Int) == (l.length : Int)) = true := by simp only [beq_iff_eq]; omega
      clear hfin hae hacc hD
      go_wp2_with (go_at_call 23; refine (sameBytes_any (rk.next hbel) hown.rd (by omega)).mono ?_; rw [HF.out]; rintro e w9 ⟨rfl, n9, rfl⟩)
      go_ret
      exact ⟨rfl, bdrewN (bnext l04 hbel) n9⟩
end Go.Proofs.YtcbfbccmghdpgabDoor
