/- FnUnitsAcross: the walk. -/
import Derived.Test.YtcbfbccmghdpgabDoorDoor
import Derived.Test.YtcbfbccmghdpgabDoorBytes
import Derived.Test.YtcbfbccmghdpgabDoorUnits2
set_option linter.unusedVariables false
namespace Go.Proofs.YtcbfbccmghdpgabDoor
open Go.RowKit P

theorem dec_i32' {us d : List Int} (hw : Units us) (h : d = dec16 us) : I32 d := fun r hr => by
  rw [h] at hr; have := good_iff.1 (dec16_good _ _ (Nat.le_refl _) hw r hr); omega

/-- the ways of a code unit among its neighbours -/
theorem unit_ways {us : List Int} {k : Nat} {x : Int} (h : us[k]? = some x) :
    (isH x = true ∧ isL x = false ∧ ∃ y, k + 1 < us.length ∧ us[k + 1]? = some y ∧ isL y = true ∧ paired us k = true) ∨
    (isH x = true ∧ isL x = false ∧ ∃ y, k + 1 < us.length ∧ us[k + 1]? = some y ∧ isL y = false ∧ paired us k = false) ∨
    (isH x = true ∧ isL x = false ∧ us.length ≤ k + 1 ∧ paired us k = false) ∨
    (isH x = false ∧ isL x = true ∧ ∃ y, 0 < k ∧ us[k - 1]? = some y ∧ isH y = true ∧ paired us k = true) ∨
    (isH x = false ∧ isL x = true ∧ ∃ y, 0 < k ∧ us[k - 1]? = some y ∧ isH y = false ∧ paired us k = false) ∨
    (isH x = false ∧ isL x = true ∧ k ≤ 0 ∧ paired us k = false) ∨
    (isH x = false ∧ isL x = false ∧ paired us k = false) := by
  have hk : us.getD k 0 = x := by simp [h]
  have hlt := (List.getElem?_eq_some_iff.1 h).1
  have hx : isH x = true → isL x = false := fun e => by rw [isH_iff] at e; rw [isL_false]; omega
  cases h1 : isH x
  · cases h2 : isL x
    · refine .inr (.inr (.inr (.inr (.inr (.inr ⟨rfl, rfl, ?_⟩)))))
      unfold paired; rw [hk, h1, h2]; simp
    · by_cases h0 : 0 < k
      · have hy : us[k - 1]? = some us[k - 1] := List.getElem?_eq_getElem (by omega)
        have hyd : us.getD (k - 1) 0 = us[k - 1] := by simp [hy]
        cases h3 : isH us[k - 1]
        · refine .inr (.inr (.inr (.inr (.inl ⟨rfl, rfl, _, h0, hy, h3, ?_⟩))))
          unfold paired; rw [hk, h1, h2, hyd, h3]; simp
        · refine .inr (.inr (.inr (.inl ⟨rfl, rfl, _, h0, hy, h3, ?_⟩)))
          unfold paired; rw [hk, h1, h2, hyd, h3]; simp [h0]
      · refine .inr (.inr (.inr (.inr (.inr (.inl ⟨rfl, rfl, by omega, ?_⟩)))))
        unfold paired; rw [hk, h1, h2]; simp [h0]
  · have h2 := hx h1
    by_cases hn : k + 1 < us.length
    · have hy : us[k + 1]? = some us[k + 1] := List.getElem?_eq_getElem hn
      have hyd : us.getD (k + 1) 0 = us[k + 1] := by simp [hy]
      cases h3 : isL us[k + 1]
      · refine .inr (.inl ⟨rfl, h2, _, hn, hy, h3, ?_⟩)
        unfold paired; rw [hk, h1, h2, hyd, h3]; simp
      · refine .inl ⟨rfl, h2, _, hn, hy, h3, ?_⟩
        unfold paired; rw [hk, h1, h2, hyd, h3]; simp
    · refine .inr (.inr (.inl ⟨rfl, h2, by omega, ?_⟩))
      have hyd : us.getD (k + 1) 0 = 0 := by
        rw [List.getD_eq_getElem?_getD, List.getElem?_eq_none (by omega)]; rfl
      unfold paired; rw [hk, h1, h2, hyd]; simp [isL]
theorem lone_sur {x : Int} (h : isH x = true ∨ isL x = true) : loneR x = 65533 := by unfold loneR; rw [if_pos h]
theorem lone_not {x : Int} (h : isH x = false) (h' : isL x = false) : loneR x = x := by unfold loneR; rw [if_neg (by simp [h, h'])]

set_option maxRecDepth 100000 in
set_option maxHeartbeats 4000000 in
theorem unitsAcross_walk {A : Option Addr} {us : List Int} {c : Nat} {w : World} (hu : Rd w .u16 A us) (hw : Units us) (hT : Tabs w) (hl : us.length ≤ 1048576) :
    Calls Tryd.prog 13 #[.slice A us.length c] w fun e w' => e = .returned (.bool true) ∧ Below w.heap.size w w' := by
  go_enter Tryd.func13, Tryd.ntmps13
  go_wp2_with fail
  refine (decodeUnits_any hu hw (by omega) (by have := dec16_le us; omega)).mono ?_
  rintro e w1 ⟨A1, c1, d, hd, rfl, o1, l1⟩
  have zd : d.length ≤ 1048576 := by rw [hd.out]; have := dec16_le us; omega
  have gd : ∀ r ∈ d, good r = true := by rw [hd.out]; exact dec16_good _ _ (Nat.le_refl _) hw
  have GD := Lib.hid gd
  clear gd
  go_wp2_with fail
  refine (appendNil_any o1.rd (dec_i32' hw hd.out) (by omega)).mono ?_
  rintro e w2 ⟨A2, c2, b, hb, rfl, o2, l2⟩
  have zb : b.length ≤ 4194304 := by rw [hb.out]; have := (encs_len d).2; omega
  have by_ : Bytes b := by rw [hb.out]; exact encs_bytes d
  have BY := Lib.hid by_
  clear by_
  go_wp2_with fail
  refine (runesOf_any o2.rd rfl BY.out (hT.next (bnext l1 l2)) o2.len.2 (by omega)).mono ?_
  rintro e w3 ⟨A3, c3, rs, hrs, rfl, o3, l3⟩
  have HR : Hid (rs = dec16 us) := by show _ = _; rw [hrs.out, hb.out, runes8_encs GD.out, hd.out]
  have zr : rs.length ≤ 1048576 := by rw [HR.out]; have := dec16_le us; omega
  go_wp2_with fail
  refine (encodeUnits_any o3.rd (dec_i32' hw HR.out) (by omega)).mono ?_
  rintro e w4 ⟨A4, c4, bk, hbk, rfl, o4, l4⟩
  have hbu := back_units _ us (Nat.le_refl _) hw
  rw [← HR.out, ← hbk.out] at hbu
  have ZB := Lib.hid hbu.1
  have HB := Lib.hid hbu.2
  have t1 : ((bk.length : Int) != (us.length : Int)) = false := by simp only [bne_eq_false_iff_eq]; rw [ZB.out]
  have zbk : bk.length ≤ 1048576 := by rw [ZB.out]; exact hl
  have l04 := bnext (bnext (bnext l1 l2) l3) l4
  have ru := hu.next l04
  have rk := o4.rd
  clear hbu o1 o2 o3 o4 l1 l2 l3 l4 hu hd hb hrs hbk
  go_wp2
  go_loopw [19] (fun v19 wr => ∃ k : Nat, k ≤ us.length ∧ v19 = .int .i64 k ∧ Below w4.heap.size w4 wr) (fun v19 _ => us.length - (intOf v19).toNat)
  case atStart => exact ⟨0, Nat.zero_le _, rfl, Below.refl _ _⟩
  case round =>
    obtain ⟨k, hk, rfl, hbel⟩ := hrel
    by_cases hlt : k < us.length
    · obtain ⟨b1, off1, x, hA1, hb1, hx, hc1⟩ := (ru.next hbel).at_ hlt
      obtain ⟨b2, off2, y, hA2, hb2, hy, hc2⟩ := (rk.next hbel).at_ (i := k) (by rw [ZB.out]; exact hlt)
      have hyx := HB.out k x hx
      rw [hy] at hyx
      injection hyx with hyx
      subst hA1 hA2
      have h1 : (k : Int) < (us.length : Int) := by omega
      have h2 : (k : Int) < (bk.length : Int) := by rw [ZB.out]; omega
      have h0 : (0 : Int) ≤ (k : Int) := by omega
      have hways := unit_ways hx
      have RU := ru.next hbel
      clear hx hy
      rcases hways with ⟨p1, p2, z, q1, q2, q3, q4⟩ | ⟨p1, p2, z, q1, q2, q3, q4⟩ | ⟨p1, p2, q1, q4⟩ | ⟨p1, p2, z, q1, q2, q3, q4⟩ | ⟨p1, p2, z, q1, q2, q3, q4⟩ | ⟨p1, p2, q1, q4⟩ | ⟨p1, p2, q4⟩
      · rw [if_pos q4] at hyx
        subst hyx
        obtain ⟨b3, off3, z', hA3, hb3, hz', hc3⟩ := RU.at_ (i := k + 1) q1
        injection hA3 with hA3; injection hA3 with e1 e2; subst e1 e2
        rw [q2] at hz'; injection hz' with hz'; subst hz'
        have h3 : (k : Int) + 1 < (us.length : Int) := by omega
        have t5 : (y != y) = false := by simp
        clear q2 q4
        go_wp2_with (first
          | (go_at_call 15; refine (isFirst_any _ _).mono ?_; rw [p1]; rintro e w' ⟨rfl, rfl⟩)
          | (go_at_call 16; refine (isSecond_any _ _).mono ?_; rw [q3]; rintro e w' ⟨rfl, rfl⟩))
        go_roundw
        case rel => exact ⟨k + 1, by omega, by go_num, hbel⟩
        case measure => simp [intOf]; omega
      · rw [if_neg (by simp [q4]), lone_sur (.inl p1)] at hyx
        subst hyx
        obtain ⟨b3, off3, z', hA3, hb3, hz', hc3⟩ := RU.at_ (i := k + 1) q1
        injection hA3 with hA3; injection hA3 with e1 e2; subst e1 e2
        rw [q2] at hz'; injection hz' with hz'; subst hz'
        have h3 : (k : Int) + 1 < (us.length : Int) := by omega
        clear q2 q4
        go_wp2_with (first
          | (go_at_call 15; refine (isFirst_any _ _).mono ?_; rw [p1]; rintro e w' ⟨rfl, rfl⟩)
          | (go_at_call 16; refine (isSecond_any _ _).mono ?_; (first | rw [q3] | rw [p2]); rintro e w' ⟨rfl, rfl⟩))
        go_roundw
        case rel => exact ⟨k + 1, by omega, by go_num, hbel⟩
        case measure => simp [intOf]; omega
      · rw [if_neg (by simp [q4]), lone_sur (.inl p1)] at hyx
        subst hyx
        have h3 : ¬ (k : Int) + 1 < (us.length : Int) := by omega
        clear q4
        go_wp2_with (first
          | (go_at_call 15; refine (isFirst_any _ _).mono ?_; rw [p1]; rintro e w' ⟨rfl, rfl⟩)
          | (go_at_call 16; refine (isSecond_any _ _).mono ?_; rw [p2]; rintro e w' ⟨rfl, rfl⟩))
        go_roundw
        case rel => exact ⟨k + 1, by omega, by go_num, hbel⟩
        case measure => simp [intOf]; omega
      · rw [if_pos q4] at hyx
        subst hyx
        obtain ⟨b3, off3, z', hA3, hb3, hz', hc3⟩ := RU.at_ (i := k - 1) (by omega)
        injection hA3 with hA3; injection hA3 with e1 e2; subst e1 e2
        rw [q2] at hz'; injection hz' with hz'; subst hz'
        have t5 : (y != y) = false := by simp
        have h4 : (0 : Int) < (k : Int) := by omega
        clear q2 q4
        go_wp2_with (first
          | (go_at_call 15; refine (isFirst_any _ _).mono ?_; (first | rw [p1] | rw [q3]); rintro e w' ⟨rfl, rfl⟩)
          | (go_at_call 16; refine (isSecond_any _ _).mono ?_; rw [p2]; rintro e w' ⟨rfl, rfl⟩))
        go_roundw
        case rel => exact ⟨k + 1, by omega, by go_num, hbel⟩
        case measure => simp [intOf]; omega
      · rw [if_neg (by simp [q4]), lone_sur (.inr p2)] at hyx
        subst hyx
        obtain ⟨b3, off3, z', hA3, hb3, hz', hc3⟩ := RU.at_ (i := k - 1) (by omega)
        injection hA3 with hA3; injection hA3 with e1 e2; subst e1 e2
        rw [q2] at hz'; injection hz' with hz'; subst hz'
        have h4 : (0 : Int) < (k : Int) := by omega
        clear q2 q4
        go_wp2_with (first
          | (go_at_call 15; refine (isFirst_any _ _).mono ?_; (first | rw [p1] | rw [q3]); rintro e w' ⟨rfl, rfl⟩)
          | (go_at_call 16; refine (isSecond_any _ _).mono ?_; rw [p2]; rintro e w' ⟨rfl, rfl⟩))
        go_roundw
        case rel => exact ⟨k + 1, by omega, by go_num, hbel⟩
        case measure => simp [intOf]; omega
      · rw [if_neg (by simp [q4]), lone_sur (.inr p2)] at hyx
        subst hyx
        have h4 : ¬ (0 : Int) < (k : Int) := by omega
        clear q4
        go_wp2_with (first
          | (go_at_call 15; refine (isFirst_any _ _).mono ?_; rw [p1]; rintro e w' ⟨rfl, rfl⟩)
          | (go_at_call 16; refine (isSecond_any _ _).mono ?_; rw [p2]; rintro e w' ⟨rfl, rfl⟩))
        go_roundw
        case rel => exact ⟨k + 1, by omega, by go_num, hbel⟩
        case measure => simp [intOf]; omega
      · rw [if_neg (by simp [q4]), lone_not p1 p2] at hyx
        subst hyx
        have t5 : (y != y) = false := by simp
        clear q4
        go_wp2_with (first
          | (go_at_call 15; refine (isFirst_any _ _).mono ?_; rw [p1]; rintro e w' ⟨rfl, rfl⟩)
          | (go_at_call 16; refine (isSecond_any _ _).mono ?_; rw [p2]; rintro e w' ⟨rfl, rfl⟩))
        go_roundw
        case rel => exact ⟨k + 1, by omega, by go_num, hbel⟩
        case measure => simp [intOf]; omega
    · have h1 : ¬ (k : Int) < (us.length : Int) := by omega
      go_wp2
      go_ret
      exact ⟨rfl, bnext l04 hbel⟩
end Go.Proofs.YtcbfbccmghdpgabDoor
