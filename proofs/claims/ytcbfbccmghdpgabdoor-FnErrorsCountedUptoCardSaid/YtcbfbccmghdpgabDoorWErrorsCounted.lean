/- FnErrorsCounted: the walk. -/
import Derived.Test.YtcbfbccmghdpgabDoorWUnitsAcross
set_option linter.unusedVariables false
namespace Go.Proofs.YtcbfbccmghdpgabDoor
open Go.RowKit P

theorem bads_le (l : List Int) : bads l ≤ l.length := List.countP_le_length
theorem bads_all {l : List Int} {k : Nat} (h : l.length ≤ k) : bads (l.take k) = bads l := by rw [List.take_of_length_le h]

set_option maxRecDepth 100000 in
set_option maxHeartbeats 4000000 in
theorem errorsCounted_walk {A : Option Addr} {us : List Int} {c : Nat} {w : World} (hu : Rd w .u16 A us) (hw : Units us) (hT : Tabs w) (hl : us.length ≤ 1048576) :
    Calls Tryd.prog 3 #[.slice A us.length c] w fun e w' => e = .returned (.bool true) ∧ Below w.heap.size w w' := by
  go_enter Tryd.func3, Tryd.ntmps3
  go_wp2
  go_loopw [3, 15] (fun v3 v15 wr => ∃ k n : Nat, k ≤ us.length ∧ n ≤ k ∧ v3 = .int .i64 n ∧ v15 = .int .i64 k ∧ Hid (n = bads ((encs16 (dec16 us)).take k)) ∧ Below w.heap.size w wr) (fun _ v15 _ => us.length - (intOf v15).toNat)
  case atStart => exact ⟨0, 0, Nat.zero_le _, Nat.zero_le _, rfl, rfl, rfl, Below.refl _ _⟩
  case round =>
    obtain ⟨k, n, hk, hnk, rfl, rfl, hN, hbel⟩ := hrel
    by_cases hlt : k < us.length
    · obtain ⟨b1, off1, x, hA1, hb1, hx, hc1⟩ := (hu.next hbel).at_ hlt
      have hst := bads_take hw hx
      rw [← hN.out] at hst
      have HST := Lib.hid hst
      have hways := unit_ways hx
      have RU := hu.next hbel
      subst hA1
      have h1 : (k : Int) < (us.length : Int) := by omega
      have h0 : (0 : Int) ≤ (k : Int) := by omega
      clear hx hst hu
      rcases hways with ⟨p1, p2, z, q1, q2, q3, q4⟩ | ⟨p1, p2, z, q1, q2, q3, q4⟩ | ⟨p1, p2, q1, q4⟩ | ⟨p1, p2, z, q1, q2, q3, q4⟩ | ⟨p1, p2, z, q1, q2, q3, q4⟩ | ⟨p1, p2, q1, q4⟩ | ⟨p1, p2, q4⟩
      · have hx0 : (x == 65533) = false := by simp only [beq_eq_false_iff_ne, ne_eq]; rw [isH_iff] at p1; omega
        have hxn : x ≠ 65533 := by simpa using hx0
        have hb0 : badAt us k x = false := by unfold badAt; rw [p1, p2, q4]; simp [hxn]
        clear hxn
        have HE : Hid (n = bads ((encs16 (dec16 us)).take (k + 1))) := by show _ = _; rw [HST.out, hb0]; rfl
        clear hb0 HST hN
        obtain ⟨b3, off3, z', hA3, hb3, hz', hc3⟩ := RU.at_ (i := k + 1) q1
        injection hA3 with hA3; injection hA3 with e1 e2; subst e1 e2
        rw [q2] at hz'; injection hz' with hz'; subst hz'
        have h3 : (k : Int) + 1 < (us.length : Int) := by omega
        clear q2 q4
        go_wp2_with (first
          | (go_at_call 15; refine (isFirst_any _ _).mono ?_; rw [p1]; rintro e w' ⟨rfl, rfl⟩)
          | (go_at_call 16; refine (isSecond_any _ _).mono ?_; (first | rw [q3] | rw [p2]); rintro e w' ⟨rfl, rfl⟩))
        go_roundw
        case rel => exact ⟨k + 1, n, by omega, by omega, by go_num, by go_num, HE, hbel⟩
        case measure => simp [intOf]; omega
      · have hx0 : (x == 65533) = false := by simp only [beq_eq_false_iff_ne, ne_eq]; rw [isH_iff] at p1; omega
        have hxn : x ≠ 65533 := by simpa using hx0
        have hb0 : badAt us k x = true := by unfold badAt; rw [p1, p2, q4]; simp [hxn]
        clear hxn
        have HE : Hid (n + 1 = bads ((encs16 (dec16 us)).take (k + 1))) := by show _ = _; rw [HST.out, hb0]; rfl
        clear hb0 HST hN
        obtain ⟨b3, off3, z', hA3, hb3, hz', hc3⟩ := RU.at_ (i := k + 1) q1
        injection hA3 with hA3; injection hA3 with e1 e2; subst e1 e2
        rw [q2] at hz'; injection hz' with hz'; subst hz'
        have h3 : (k : Int) + 1 < (us.length : Int) := by omega
        clear q2 q4
        go_wp2_with (first
          | (go_at_call 15; refine (isFirst_any _ _).mono ?_; rw [p1]; rintro e w' ⟨rfl, rfl⟩)
          | (go_at_call 16; refine (isSecond_any _ _).mono ?_; (first | rw [q3] | rw [p2]); rintro e w' ⟨rfl, rfl⟩))
        go_roundw
        case rel => exact ⟨k + 1, n + 1, by omega, by omega, by go_num, by go_num, HE, hbel⟩
        case measure => simp [intOf]; omega
      · have hx0 : (x == 65533) = false := by simp only [beq_eq_false_iff_ne, ne_eq]; rw [isH_iff] at p1; omega
        have hxn : x ≠ 65533 := by simpa using hx0
        have hb0 : badAt us k x = true := by unfold badAt; rw [p1, p2, q4]; simp [hxn]
        clear hxn
        have HE : Hid (n + 1 = bads ((encs16 (dec16 us)).take (k + 1))) := by show _ = _; rw [HST.out, hb0]; rfl
        clear hb0 HST hN
        have h3 : ¬ (k : Int) + 1 < (us.length : Int) := by omega
        clear q4
        go_wp2_with (first
          | (go_at_call 15; refine (isFirst_any _ _).mono ?_; rw [p1]; rintro e w' ⟨rfl, rfl⟩)
          | (go_at_call 16; refine (isSecond_any _ _).mono ?_; rw [p2]; rintro e w' ⟨rfl, rfl⟩))
        go_roundw
        case rel => exact ⟨k + 1, n + 1, by omega, by omega, by go_num, by go_num, HE, hbel⟩
        case measure => simp [intOf]; omega
      · have hx0 : (x == 65533) = false := by simp only [beq_eq_false_iff_ne, ne_eq]; rw [isL_iff] at p2; omega
        have hxn : x ≠ 65533 := by simpa using hx0
        have hb0 : badAt us k x = false := by unfold badAt; rw [p1, p2, q4]; simp [hxn]
        clear hxn
        have HE : Hid (n = bads ((encs16 (dec16 us)).take (k + 1))) := by show _ = _; rw [HST.out, hb0]; rfl
        clear hb0 HST hN
        obtain ⟨b3, off3, z', hA3, hb3, hz', hc3⟩ := RU.at_ (i := k - 1) (by omega)
        injection hA3 with hA3; injection hA3 with e1 e2; subst e1 e2
        rw [q2] at hz'; injection hz' with hz'; subst hz'
        have h4 : (0 : Int) < (k : Int) := by omega
        clear q2 q4
        go_wp2_with (first
          | (go_at_call 15; refine (isFirst_any _ _).mono ?_; (first | rw [p1] | rw [q3]); rintro e w' ⟨rfl, rfl⟩)
          | (go_at_call 16; refine (isSecond_any _ _).mono ?_; rw [p2]; rintro e w' ⟨rfl, rfl⟩))
        go_roundw
        case rel => exact ⟨k + 1, n, by omega, by omega, by go_num, by go_num, HE, hbel⟩
        case measure => simp [intOf]; omega
      · have hx0 : (x == 65533) = false := by simp only [beq_eq_false_iff_ne, ne_eq]; rw [isL_iff] at p2; omega
        have hxn : x ≠ 65533 := by simpa using hx0
        have hb0 : badAt us k x = true := by unfold badAt; rw [p1, p2, q4]; simp [hxn]
        clear hxn
        have HE : Hid (n + 1 = bads ((encs16 (dec16 us)).take (k + 1))) := by show _ = _; rw [HST.out, hb0]; rfl
        clear hb0 HST hN
        obtain ⟨b3, off3, z', hA3, hb3, hz', hc3⟩ := RU.at_ (i := k - 1) (by omega)
        injection hA3 with hA3; injection hA3 with e1 e2; subst e1 e2
        rw [q2] at hz'; injection hz' with hz'; subst hz'
        have h4 : (0 : Int) < (k : Int) := by omega
        clear q2 q4
        go_wp2_with (first
          | (go_at_call 15; refine (isFirst_any _ _).mono ?_; (first | rw [p1] | rw [q3]); rintro e w' ⟨rfl, rfl⟩)
          | (go_at_call 16; refine (isSecond_any _ _).mono ?_; rw [p2]; rintro e w' ⟨rfl, rfl⟩))
        go_roundw
        case rel => exact ⟨k + 1, n + 1, by omega, by omega, by go_num, by go_num, HE, hbel⟩
        case measure => simp [intOf]; omega
      · have hx0 : (x == 65533) = false := by simp only [beq_eq_false_iff_ne, ne_eq]; rw [isL_iff] at p2; omega
        have hxn : x ≠ 65533 := by simpa using hx0
        have hb0 : badAt us k x = true := by unfold badAt; rw [p1, p2, q4]; simp [hxn]
        clear hxn
        have HE : Hid (n + 1 = bads ((encs16 (dec16 us)).take (k + 1))) := by show _ = _; rw [HST.out, hb0]; rfl
        clear hb0 HST hN
        have h4 : ¬ (0 : Int) < (k : Int) := by omega
        clear q4
        go_wp2_with (first
          | (go_at_call 15; refine (isFirst_any _ _).mono ?_; rw [p1]; rintro e w' ⟨rfl, rfl⟩)
          | (go_at_call 16; refine (isSecond_any _ _).mono ?_; rw [p2]; rintro e w' ⟨rfl, rfl⟩))
        go_roundw
        case rel => exact ⟨k + 1, n + 1, by omega, by omega, by go_num, by go_num, HE, hbel⟩
        case measure => simp [intOf]; omega
      · have hb0 : badAt us k x = decide (x = 65533) := by unfold badAt; rw [p1, p2]; simp
        clear q4
        by_cases hxe : x = 65533
        · have HE : Hid (n + 1 = bads ((encs16 (dec16 us)).take (k + 1))) := by show _ = _; rw [HST.out, hb0, hxe]; rfl
          subst hxe
          clear hb0 HST hN
          go_wp2_with (first
            | (go_at_call 15; refine (isFirst_any _ _).mono ?_; rw [p1]; rintro e w' ⟨rfl, rfl⟩)
            | (go_at_call 16; refine (isSecond_any _ _).mono ?_; rw [p2]; rintro e w' ⟨rfl, rfl⟩))
          go_roundw
          case rel => exact ⟨k + 1, n + 1, by omega, by omega, by go_num, by go_num, HE, hbel⟩
          case measure => simp [intOf]; omega
        · have HE : Hid (n = bads ((encs16 (dec16 us)).take (k + 1))) := by show _ = _; rw [HST.out, hb0, if_neg (by simpa using hxe)]; rfl
          have hx0 : (x == 65533) = false := by simpa using hxe
          clear hb0 HST hN hxe
          go_wp2_with (first
            | (go_at_call 15; refine (isFirst_any _ _).mono ?_; rw [p1]; rintro e w' ⟨rfl, rfl⟩)
            | (go_at_call 16; refine (isSecond_any _ _).mono ?_; rw [p2]; rintro e w' ⟨rfl, rfl⟩))
          go_roundw
          case rel => exact ⟨k + 1, n, by omega, by omega, by go_num, by go_num, HE, hbel⟩
          case measure => simp [intOf]; omega
    · have h1 : ¬ (k : Int) < (us.length : Int) := by omega
      have hNe : n = bads (dec16 us) := by
        rw [hN.out, bads_all (by rw [(back_units _ us (Nat.le_refl _) hw).1]; omega), bads_enc16 _ (dec16_good _ _ (Nat.le_refl _) hw)]
      have HNe := Lib.hid hNe
      clear hNe hN hlt
      go_wp2_with fail
      refine (decodeUnits_any (hu.next hbel) hw (by omega) (by have := dec16_le us; omega)).mono ?_
      rintro e w1 ⟨A1, c1, d, hd, rfl, o1, l1⟩
      have zd : d.length ≤ 1048576 := by rw [hd.out]; have := dec16_le us; omega
      have gd : ∀ r ∈ d, good r = true := by rw [hd.out]; exact dec16_good _ _ (Nat.le_refl _) hw
      have GD := Lib.hid gd
      clear gd
      go_wp2_with fail
      refine (appendNil_any o1.rd (dec_i32' hw hd.out) (by omega)).mono ?_
      rintro e w2 ⟨A2, c2, b, hb, rfl, o2, l2⟩
      have zb : b.length ≤ 4194304 := by rw [hb.out]; have := (encs_len d).2; omega
      have by_ : Bytes b := by rw [hb.out]; exact encs_bytes d
      have BY := Lib.hid by_
      clear by_
      go_wp2_with fail
      have l02 := bnext hbel (bnext l1 l2)
      refine (decodeBytes_any o2.rd BY.out (hT.next l02) o2.len.2 (by omega)).mono ?_
      rintro e w3 ⟨A4, c4, A5, c5, rs, ss, hrs, hss, rfl, o4, o5, l4⟩
      have HR : Hid (rs = d) := by show _ = _; rw [hrs.out, hb.out, runes8_encs GD.out]
      have HS : Hid (ss = d.map fun r => ((enc r).length : Int)) := by show _ = _; rw [hss.out, hb.out, sizes8_encs]
      have zr : rs.length ≤ 1048576 := by rw [HR.out]; exact zd
      have ZS : Hid (ss.length = rs.length) := by show _ = _; rw [HS.out, List.length_map, HR.out]
      have t1 : ((rs.length : Int) != (ss.length : Int)) = false := by simp only [bne_eq_false_iff_eq]; rw [ZS.out]
      have HF : Hid (n = bads rs) := by show _ = _; rw [HR.out, hd.out]; exact HNe.out
      have rr := o4.rd
      have rs_ := o5.rd
      have l03 := bnext l02 l4
      clear o1 o2 o4 o5 l1 l2 l4 l02 hu hd hb hrs hss BY
      go_wp2
      go_loopw [9, 10, 84] (fun v9 v10 v84 wr => ∃ k m : Nat, k ≤ rs.length ∧ m ≤ k ∧ v9 = .int .i64 m ∧ v10 = .int .i64 (3 * m) ∧ v84 = .int .i64 k ∧ Hid (m = bads (rs.take k)) ∧ Below w3.heap.size w3 wr) (fun _ _ v84 _ => rs.length - (intOf v84).toNat)
      case atStart => exact ⟨0, 0, Nat.zero_le _, Nat.zero_le _, rfl, rfl, rfl, rfl, Below.refl _ _⟩
      case round =>
        obtain ⟨j, m, hj, hmj, rfl, rfl, rfl, hM, hbel2⟩ := hrel
        by_cases hlt2 : j < rs.length
        · obtain ⟨b1, off1, x, hA1, hb1, hx, hc1⟩ := (rr.next hbel2).at_ hlt2
          obtain ⟨b2, off2, y, hA2, hb2, hy, hc2⟩ := (rs_.next hbel2).at_ (i := j) (by rw [ZS.out]; exact hlt2)
          have hyx : y = ((enc x).length : Int) := by
            rw [HS.out, ← HR.out, List.getElem?_map, hx] at hy; simpa using hy.symm
          have hst : bads (rs.take (j + 1)) = m + if x = 65533 then 1 else 0 := by rw [take_snoc hx, bads_snoc, ← hM.out]
          have HST := Lib.hid hst
          subst hA1 hA2
          have h2 : (j : Int) < (rs.length : Int) := by omega
          have h3 : (j : Int) < (ss.length : Int) := by rw [ZS.out]; omega
          have h4 : (0 : Int) ≤ (j : Int) := by omega
          clear hx hy hst
          by_cases hxe : x = 65533
          · have hy3 : y = 3 := by rw [hyx, hxe, enc_fffd]; rfl
            have HE : Hid (m + 1 = bads (rs.take (j + 1))) := by show _ = _; rw [HST.out, hxe]; rfl
            subst hxe hy3
            clear hyx HST hM
            go_wp2
            go_roundw
            case rel => exact ⟨j + 1, m + 1, by omega, by omega, by go_num, by go_num, by go_num, HE, hbel2⟩
            case measure => simp [intOf]; omega
          · have HE : Hid (m = bads (rs.take (j + 1))) := by show _ = _; rw [HST.out, if_neg hxe]; rfl
            have hx0 : (x == 65533) = false := by simpa using hxe
            clear hyx HST hM hxe
            go_wp2
            go_roundw
            case rel => exact ⟨j + 1, m, by omega, by omega, by go_num, by go_num, by go_num, HE, hbel2⟩
            case measure => simp [intOf]; omega
        · have h2 : ¬ (j : Int) < (rs.length : Int) := by omega
          have hmn : m = n := by rw [hM.out, HF.out, bads_all (by omega)]
          subst hmn
          clear hM HF HNe
          go_wp2
          go_ret
          exact ⟨rfl, bnext l03 hbel2⟩
end Go.Proofs.YtcbfbccmghdpgabDoor
