/- FnTextLengths: the walk. -/
import Derived.Test.YtcbfbccmghdpgabDoorDoor
import Derived.Test.YtcbfbccmghdpgabDoorBytes
set_option linter.unusedVariables false
namespace Go.Proofs.YtcbfbccmghdpgabDoor
open Go.RowKit P

theorem all_snoc {b : List Int} {k : Nat} {x : Int} (h : b[k]? = some x) : ((b.take (k + 1)).all fun x => decide (x < 128)) = (((b.take k).all fun x => decide (x < 128)) && decide (x < 128)) := by
  rw [take_snoc h, List.all_append]; simp
theorem count_snoc {b : List Int} {k : Nat} {x : Int} (h : b[k]? = some x) : ((b.take (k + 1)).countP fun x => decide (x = 4)) = ((b.take k).countP fun x => decide (x = 4)) + if x = 4 then 1 else 0 := by
  rw [take_snoc h, List.countP_append]; simp [List.countP_cons]

set_option maxRecDepth 100000 in
set_option maxHeartbeats 1000000 in
theorem textLengths_walk {A : Option Addr} {xs : List Int} {c : Nat} {w : World} (hx : Rd w .i32 A xs) (hi : I32 xs) (hT : Tabs w) (hl : xs.length ≤ 1048576) :
    Calls Tryd.prog 8 #[.slice A xs.length c] w fun e w' => e = .returned (.bool true) ∧ Below w.heap.size w w' := by
  go_enter Tryd.func8, Tryd.ntmps8
  go_wp2_with fail
  refine (goods_any hx (by omega)).mono ?_
  rintro e w1 ⟨A1, c1, g, hg, rfl, o1, l1⟩
  have zg : g.length ≤ 1048576 := by rw [hg.out]; have := filter_le xs; omega
  have ig := hi.good hg.out
  have gg : ∀ r ∈ g, good r = true := by rw [hg.out]; exact good_filter xs
  have GG := Lib.hid gg
  clear gg hx
  go_wp2_with fail
  refine (appendNil_any o1.rd ig (by omega)).mono ?_
  rintro e w2 ⟨A2, c2, b, hb, rfl, o2, l2⟩
  go_wp2_with fail
  refine (encodeUnits_any (o1.next l2).rd ig (by omega)).mono ?_
  rintro e w3 ⟨A3, c3, us, hus, rfl, o3, l3⟩
  have zb : b.length ≤ 4194304 := by rw [hb.out]; have := (encs_len g).2; omega
  have by_ : Bytes b := by rw [hb.out]; exact encs_bytes g
  have BY := Lib.hid by_
  clear by_
  have l03 := bnext (bnext l1 l2) l3
  have o2' := o2.next l3
  go_wp2_with fail
  refine (decodeBytes_any o2'.rd BY.out (hT.next l03) o2'.len.2 (by omega)).mono ?_
  rintro e w4 ⟨A4, c4, A5, c5, rs, ss, hrs, hss, rfl, o4, o5, l4⟩
  have HS : Hid (ss = g.map fun r => ((enc r).length : Int)) := by show _ = _; rw [hss.out, hb.out, sizes8_encs]
  have zs : Hid (ss.length = g.length) := by show _ = _; rw [HS.out, List.length_map]
  have zs2 : ss.length ≤ 1048576 := by rw [zs.out]; exact zg
  have zu : us.length ≤ 2097152 := by rw [hus.out]; have := (encs16_len g).2; omega
  have hcnt : (ss.countP fun x => decide (x = 4)) = g.countP fun r => decide ((enc r).length = 4) := by
    rw [HS.out, List.countP_map]; congr 1; funext r; simp only [Function.comp, decide_eq_decide]; omega
  obtain ⟨f1, f2, f3, f4⟩ := text_lens g GG.out
  rw [← hcnt, ← hus.out] at f1
  rw [← hus.out, ← hb.out] at f2 f3 f4
  have F1 := Lib.hid f1
  have F4 := Lib.hid f4
  have rb := (o2'.next l4).rd
  have rs_ := o5.rd
  have l04 := bnext l03 l4
  clear o1 o2 o2' o3 o4 o5 l1 l2 l3 l4 l03 hrs hss hus hb f1 f4 hcnt
  go_wp2
  go_loopw [8, 27] (fun v8 v27 wr => ∃ k n : Nat, k ≤ ss.length ∧ n ≤ k ∧ v8 = .int .i64 n ∧ v27 = .int .i64 k ∧ Hid (n = (ss.take k).countP fun x => decide (x = 4)) ∧ Below w4.heap.size w4 wr) (fun _ v27 _ => ss.length - (intOf v27).toNat)
  case atStart => exact ⟨0, 0, Nat.zero_le _, Nat.zero_le _, rfl, rfl, rfl, Below.refl _ _⟩
  case round =>
    obtain ⟨k, n, hk, hnk, rfl, rfl, hN, hbel⟩ := hrel
    by_cases hlt : k < ss.length
    · obtain ⟨b1, off1, x, hA1, hb1, hx, hc1⟩ := (rs_.next hbel).at_ hlt
      subst hA1
      have hst := count_snoc hx
      rw [← hN.out] at hst
      have HST := Lib.hid hst
      have h1 : (k : Int) < (ss.length : Int) := by omega
      clear hst hx
      by_cases h4 : x = 4
      · subst h4
        go_wp2
        go_roundw
        case rel => exact ⟨k + 1, n + 1, by omega, by omega, by go_num, by go_num, by show _ = _; rw [HST.out]; rfl, hbel⟩
        case measure => simp [intOf]; omega
      · have h3 : (x == 4) = false := by simp only [beq_eq_false_iff_ne, ne_eq]; exact h4
        have HE : Hid (n = (ss.take (k + 1)).countP fun x => decide (x = 4)) := by show _ = _; rw [HST.out, if_neg h4]; rfl
        clear h4
        go_wp2
        go_roundw
        case rel => exact ⟨k + 1, n, by omega, by omega, by go_num, by go_num, HE, hbel⟩
        case measure => simp [intOf]; omega
    · have h1 : ¬ (k : Int) < (ss.length : Int) := by omega
      have hN2 : us.length = g.length + n := by
        rw [F1.out, hN.out, List.take_of_length_le (by omega)]
      have HN2 := Lib.hid hN2
      clear hN hlt hN2
      go_wp2
      go_loopw [11, 38] (fun v11 v38 wr => ∃ (k : Nat) (q : Bool), k ≤ b.length ∧ v11 = .bool q ∧ v38 = .int .i64 k ∧ Hid (q = (b.take k).all fun x => decide (x < 128)) ∧ Below w4.heap.size w4 wr) (fun _ v38 _ => b.length - (intOf v38).toNat)
      case atStart => exact ⟨0, true, Nat.zero_le _, rfl, rfl, rfl, hbel⟩
      case round =>
        obtain ⟨k2, q, hk2, rfl, rfl, hQ, hbel2⟩ := hrel
        by_cases hlt2 : k2 < b.length
        · obtain ⟨b1, off1, x, hA1, hb1, hx, hc1⟩ := (rb.next hbel2).at_ hlt2
          subst hA1
          have hst := all_snoc hx
          rw [← hQ.out] at hst
          have HST := Lib.hid hst
          have h2 : (k2 : Int) < (b.length : Int) := by omega
          clear hst hx
          cases q
          · go_wp2
            go_roundw
            case rel => exact ⟨k2 + 1, false, by omega, by go_num, by go_num, by show _ = _; rw [HST.out]; rfl, hbel2⟩
            case measure => simp [intOf]; omega
          · by_cases h4 : x < 128
            · go_wp2
              go_roundw
              case rel => exact ⟨k2 + 1, true, by omega, by go_num, by go_num, by show _ = _; rw [HST.out]; simpa using h4, hbel2⟩
              case measure => simp [intOf]; omega
            · have h5 : decide (x < 128) = false := by simpa using h4
              go_wp2
              go_roundw
              case rel => exact ⟨k2 + 1, false, by omega, by go_num, by go_num, by show _ = _; rw [HST.out, h5]; rfl, hbel2⟩
              case measure => simp [intOf]; omega
        · have h2 : ¬ (k2 : Int) < (b.length : Int) := by omega
          have hq : decide (b.length = us.length) = q := by
            rw [hQ.out, List.take_of_length_le (by omega), Bool.eq_iff_iff, decide_eq_true_iff, F4.out, List.all_eq_true]
            exact ⟨fun h x hx => decide_eq_true (h x hx), fun h x hx => of_decide_eq_true (h x hx)⟩
          have hq2 : ((b.length : Int) == (us.length : Int)) = q := by
            rw [← hq]; rw [Bool.eq_iff_iff]; simp only [beq_iff_eq, decide_eq_true_eq]; omega
          have t1 : ((us.length : Int) != (g.length : Int) + (n : Int)) = false := by simp only [bne_eq_false_iff_eq]; have := HN2.out; omega
          clear hq hQ
          cases q <;> go_wp2 <;> go_ret <;> exact ⟨rfl, bnext l04 hbel2⟩
end Go.Proofs.YtcbfbccmghdpgabDoor
