/- FnSizesTellUnits: the walk. -/
import Derived.Test.YtcbfbccmghdpgabDoorDoor
import Derived.Test.YtcbfbccmghdpgabDoorBytes
set_option linter.unusedVariables false
namespace Go.Proofs.YtcbfbccmghdpgabDoor
open Go.RowKit P

set_option maxRecDepth 100000 in
set_option maxHeartbeats 1000000 in
theorem sizesTellUnits_walk {A : Option Addr} {xs : List Int} {c : Nat} {w : World} (hx : Rd w .i32 A xs) (hi : I32 xs) (hT : Tabs w) (hl : xs.length ≤ 1048576) :
    Calls Tryd.prog 7 #[.slice A xs.length c] w fun e w' => e = .returned (.bool true) ∧ Below w.heap.size w w' := by
  go_enter Tryd.func7, Tryd.ntmps7
  go_wp2_with fail
  refine (goods_any hx (by omega)).mono ?_
  rintro e w1 ⟨A1, c1, g, hg, rfl, o1, l1⟩
  have zg : g.length ≤ 1048576 := by rw [hg.out]; have := filter_le xs; omega
  have ig := hi.good hg.out
  have gg : ∀ r ∈ g, good r = true := by rw [hg.out]; exact good_filter xs
  have GG := Lib.hid gg
  clear gg hx
  go_wp2_with fail
  refine (encodeUnits_any o1.rd ig (by omega)).mono ?_
  rintro e w2 ⟨A2, c2, us, hus, rfl, o2, l2⟩
  go_wp2_with fail
  refine (appendNil_any (o1.next l2).rd ig (by omega)).mono ?_
  rintro e w3 ⟨A3, c3, b, hb, rfl, o3, l3⟩
  have zb : b.length ≤ 4194304 := by rw [hb.out]; have := (encs_len g).2; omega
  have by_ : Bytes b := by rw [hb.out]; exact encs_bytes g
  have BY := Lib.hid by_
  clear by_
  have l03 := bnext (bnext l1 l2) l3
  go_wp2_with fail
  refine (decodeBytes_any o3.rd BY.out (hT.next l03) o3.len.2 (by omega)).mono ?_
  rintro e w4 ⟨A4, c4, A5, c5, rs, ss, hrs, hss, rfl, o4, o5, l4⟩
  have HS : Hid (ss = g.map fun r => ((enc r).length : Int)) := by show _ = _; rw [hss.out, hb.out, sizes8_encs]
  have zs : Hid (ss.length = g.length) := by show _ = _; rw [HS.out, List.length_map]
  have zs2 : ss.length ≤ 1048576 := by rw [zs.out]; exact zg
  have zu : us.length ≤ 2097152 := by rw [hus.out]; have := (encs16_len g).2; omega
  have HU : Hid (us = encs16 g) := hus
  have ru := (o2.next (bnext l3 l4)).rd
  have rs_ := o5.rd
  have l04 := bnext l03 l4
  clear o1 o2 o3 o4 o5 l1 l2 l3 l4 l03 hrs hss hus hb BY
  go_wp2
  go_loopw [7, 22] (fun v7 v22 wr => ∃ k at_ : Nat, k ≤ ss.length ∧ at_ ≤ us.length ∧ v7 = .int .i64 at_ ∧ v22 = .int .i64 k ∧ Hid (at_ = (encs16 (g.take k)).length) ∧ Below w4.heap.size w4 wr) (fun _ v22 _ => ss.length - (intOf v22).toNat)
  case atStart => exact ⟨0, 0, Nat.zero_le _, Nat.zero_le _, rfl, rfl, rfl, Below.refl _ _⟩
  case round =>
    obtain ⟨k, at_, hk, hat, rfl, rfl, hA, hbel⟩ := hrel
    by_cases hlt : k < ss.length
    · obtain ⟨b1, off1, n, hA1, hb1, hn, hc1⟩ := (rs_.next hbel).at_ hlt
      subst hA1
      have hkg : k < g.length := by rw [← zs.out]; exact hlt
      have hr : g[k]? = some g[k] := List.getElem?_eq_getElem hkg
      have hgr := GG.out _ (List.getElem_mem hkg)
      have hnn : n = ((enc g[k]).length : Int) := by rw [HS.out, List.getElem?_map, hr] at hn; simpa using hn.symm
      have hsu := sizes_units hgr HU.out hr at_ hA.out
      generalize g[k] = r at *
      subst hnn
      have h1 : (k : Int) < (ss.length : Int) := by omega
      have h0 : (0 : Int) ≤ (at_ : Int) := by omega
      clear hn hr hgr hkg
      generalize (enc r).length = n at *
      rcases hsu with ⟨x, q1, q2, q3, q4, q5, q6⟩ | ⟨x, y, q1, q2, q3, q4, q5, q6, q7, q8⟩
      · obtain ⟨b2, off2, x', hA2, hb2, hx', hc2⟩ := (ru.next hbel).at_ (i := at_) (by omega)
        rw [q1] at hx'; injection hx' with hx'
        subst hA2 hx'
        have h2 : (at_ : Int) < (us.length : Int) := by omega
        have h3 : ((n : Int) == 4) = false := by simp only [beq_eq_false_iff_ne, ne_eq]; omega
        have Q5 := Lib.hid q5
        clear q1 q5
        go_wp2_with (first
          | (go_at_call 15; refine (isFirst_any _ _).mono ?_; rw [q3]; rintro e w' ⟨rfl, rfl⟩)
          | (go_at_call 16; refine (isSecond_any _ _).mono ?_; rw [q2]; rintro e w' ⟨rfl, rfl⟩))
        go_roundw
        case rel => exact ⟨k + 1, at_ + 1, by omega, by omega, by go_num, by go_num, Q5.out.symm, hbel⟩
        case measure => simp [intOf]; omega
      · obtain ⟨b2, off2, x', hA2, hb2, hx', hc2⟩ := (ru.next hbel).at_ (i := at_) (by omega)
        obtain ⟨b3, off3, y', hA3, hb3, hy', hc3⟩ := (ru.next hbel).at_ (i := at_ + 1) (by omega)
        rw [q1] at hx'; injection hx' with hx'
        rw [q2] at hy'; injection hy' with hy'
        subst hA2 hx' hy'
        injection hA3 with hA3
        injection hA3 with hz1 hz2
        subst hz1 hz2
        subst q6
        have h2 : (at_ : Int) < (us.length : Int) := by omega
        have h3 : (at_ : Int) + 1 < (us.length : Int) := by omega
        have Q7 := Lib.hid q7
        clear q1 q2 q7
        go_wp2_with (first
          | (go_at_call 15; refine (isFirst_any _ _).mono ?_; rw [q4]; rintro e w' ⟨rfl, rfl⟩)
          | (go_at_call 16; refine (isSecond_any _ _).mono ?_; first | rw [q3] | rw [q5]; rintro e w' ⟨rfl, rfl⟩))
        go_roundw
        case rel => exact ⟨k + 1, at_ + 2, by omega, by omega, by go_num, by go_num, Q7.out.symm, hbel⟩
        case measure => simp [intOf]; omega
    · have h1 : ¬ (k : Int) < (ss.length : Int) := by omega
      have h2 : ((at_ : Int) == (us.length : Int)) = true := by
        simp only [beq_iff_eq]
        rw [hA.out, HU.out, List.take_of_length_le (by rw [← zs.out]; omega)]
      have h3 : ((ss.length : Int) == (g.length : Int)) = true := by simp only [beq_iff_eq]; rw [zs.out]
      go_wp2
      go_ret
      exact ⟨rfl, bnext l04 hbel⟩
end Go.Proofs.YtcbfbccmghdpgabDoor
