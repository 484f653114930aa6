/- FnManyPieces: the walk. -/
import Derived.Test.YtcbfbccmghdpgabDoorDoor
import Derived.Test.YtcbfbccmghdpgabDoorAppU
import Derived.Test.YtcbfbccmghdpgabDoorQuiet
import Derived.Test.YtcbfbccmghdpgabDoorSlices
set_option linter.unusedVariables false
namespace Go.Proofs.YtcbfbccmghdpgabDoor
open Go.RowKit P

theorem run_cut_m {P : Program} {w : World} (t e : TypeId) (ht : P.underlying t = some (.slice e)) (i : TypeInfo) (hi : P.info? e = some i) (hs : i.size = 1) (A : Option Addr) (len cap lo n : Nat) (z z' : Int) (hz : z = (lo : Int)) (hz' : z' = (lo : Int) + (n : Int)) (h2 : lo + n ≤ cap) :
    (Instr.slice t (.slice A len cap) (some (.int .i64 z)) (some (.int .i64 z')) none).run P w = .ok (.slice (cutA A cap lo) n (cap - lo)) w := by
  subst hz hz'
  have h := run_cut (P := P) (w := w) t e ht i hi hs A len cap lo (lo + n) (by omega) h2
  rw [show lo + n - lo = n by omega] at h
  simpa using h
theorem appendUnits_m {A A' : Option Addr} {us rs : List Int} {c c' m : Nat} {w : World} (hb : Rd w .u16 A us) (hr : Rd w .i32 A' rs) (hm : rs.length = m) (hi : I32 rs) (hl : us.length + 2 * rs.length ≤ 70368744177600) :
    Calls Tryd.prog 34 #[.slice A us.length c, .slice A' m c'] w (Made w 23 .u16 (us ++ encs16 rs)) := by
  subst hm; exact appendUnits_any hb hr hi hl
theorem appendBytes_m {A A' : Option Addr} {bs rs : List Int} {c c' m : Nat} {w : World} (hb : Rd w .u8 A bs) (hr : Rd w .i32 A' rs) (hm : rs.length = m) (hi : I32 rs) (hl : bs.length + 4 * rs.length ≤ 140737488355328) :
    Calls Tryd.prog 18 #[.slice A bs.length c, .slice A' m c'] w (Made w 5 .u8 (bs ++ encs rs)) := by
  subst hm; exact appendBytes_any hb hr hi hl
theorem appendNil_m {A' : Option Addr} {rs : List Int} {c' m : Nat} {w : World} (hr : Rd w .i32 A' rs) (hm : rs.length = m) (hi : I32 rs) (hl : 4 * rs.length ≤ 140737488355328) :
    Calls Tryd.prog 18 #[.slice none 0 0, .slice A' m c'] w (Made w 5 .u8 (encs rs)) := by
  subst hm; exact appendNil_any hr hi hl
theorem I32.take {xs : List Int} (h : I32 xs) (n : Nat) : I32 (xs.take n) := fun x hx => h x (List.mem_of_mem_take hx)
theorem I32.drop {xs : List Int} (h : I32 xs) (n : Nat) : I32 (xs.drop n) := fun x hx => h x (List.mem_of_mem_drop hx)
theorem u_ne : (23 : TypeId) ≠ 5 := by decide
theorem take_more (xs : List Int) (a n : Nat) : xs.take (a + n) = xs.take a ++ (xs.drop a).take n := by rw [List.take_add]

set_option maxRecDepth 100000 in
set_option maxHeartbeats 2000000 in
theorem manyPieces_walk {A B : Option Addr} {xs cs : List Int} {c d : Nat} {w : World} (hx : Rd w .i32 A xs) (hi : I32 xs) (hcap : xs.length ≤ c) (hl : xs.length ≤ 1048576) (hB : Rd w .u8 B cs) (hy : Bytes cs) (hlb : cs.length ≤ 1048576) (hT : Tabs w) :
    Calls Tryd.prog 14 #[.slice A xs.length c, .slice B cs.length d] w fun e w' => e = .returned (.bool true) ∧ Below w.heap.size w w' := by
  obtain ⟨j32, hj32, _, hs32, _⟩ := info_parts info_i32
  have J32 := Lib.hid (And.intro hj32 hs32)
  clear hj32 hs32
  go_enter Tryd.func14, Tryd.ntmps14
  go_wp2
  go_loopw [5, 6, 7, 13] (fun v5 v6 v7 v13 wr => ∃ (k at_ : Nat) (A5 : Option Addr) (c5 : Nat) (us : List Int) (A6 : Option Addr) (c6 : Nat) (b : List Int), k ≤ cs.length ∧ at_ ≤ xs.length ∧ v7 = .int .i64 at_ ∧ v13 = .int .i64 k ∧ Hid (us = encs16 (xs.take at_)) ∧ Hid (b = encs (xs.take at_)) ∧
      v5 = .slice A5 us.length c5 ∧ v6 = .slice A6 b.length c6 ∧ Own wr w.heap.size 23 .u16 (.slice A5 us.length c5) us ∧ Own wr w.heap.size 5 .u8 (.slice A6 b.length c6) b ∧ Below w.heap.size w wr)
    (fun _ _ _ v13 _ => cs.length - (intOf v13).toNat)
  case atStart => exact ⟨0, 0, none, 0, [], none, 0, [], Nat.zero_le _, Nat.zero_le _, rfl, rfl, rfl, rfl, rfl, rfl, Own.nil _ _ _ _, Own.nil _ _ _ _, Below.refl _ _⟩
  case round =>
    obtain ⟨k, at_, A5, c5, us, A6, c6, b, hk, hat, rfl, rfl, hU, hE, rfl, rfl, o5, o6, hbel⟩ := hrel
    have hsz := hbel.size
    have zu : us.length ≤ 2097152 := by rw [hU.out]; have := (encs16_len (xs.take at_)).2; have := List.length_take_le at_ xs; omega
    have zb : b.length ≤ 4194304 := by rw [hE.out]; have := (encs_len (xs.take at_)).2; have := List.length_take_le at_ xs; omega
    by_cases hlt : k < cs.length
    · obtain ⟨b1, off1, x, hA1, hb1, hxk, hc1⟩ := (hB.next hbel).at_ hlt
      subst hA1
      have hx8 := hy x (List.mem_of_getElem? hxk)
      have hx0 := hx8.1
      have hx1 := hx8.2
      have h1 : (k : Int) < (cs.length : Int) := by omega
      clear hxk hx8
      obtain ⟨z, n, e1, e2, e3, hn1, hn2⟩ : ∃ z n : Nat, x % 5 = (z : Int) ∧ x.tmod 5 = (z : Int) ∧ min (z : Int) ((xs.length : Int) - (at_ : Int)) = (n : Int) ∧ at_ + n ≤ xs.length ∧ n ≤ 4 := by
        have e : x.tmod 5 = x % 5 := Int.tmod_eq_emod_of_nonneg hx0
        exact ⟨(x % 5).toNat, (min (x % 5) ((xs.length : Int) - (at_ : Int))).toNat, by omega, by omega, by omega, by omega, by omega⟩
      have hcut := fun W => run_cut_m (P := Tryd.prog) (w := W) 25 21 Tryd.underlying25 j32 J32.out.1 J32.out.2 A xs.length c at_ n (at_ : Int) ((at_ : Int) + (n : Int)) rfl rfl (by omega)
      have hpl : ((xs.drop at_).take n).length = n := by rw [List.length_take, List.length_drop]; omega
      have HPL := Lib.hid hpl
      clear hpl
      go_wp2_with fail
      refine (appendUnits_m o5.rd (((hx.next hbel).drop c at_ hcap).take n) HPL.out ((hi.drop _).take _) (by rw [HPL.out]; omega)).mono ?_
      rintro e w1 ⟨A7, c7, us1, hu1, rfl, o7, l7⟩
      go_wp2_with fail
      refine (appendNil_m (((hx.next (bnext hbel l7)).drop c at_ hcap).take n) HPL.out ((hi.drop _).take _) (by rw [HPL.out]; omega)).mono ?_
      rintro e w2 ⟨A8, c8, p, hp, rfl, o8, l8⟩
      have l78 := bnext l7 l8
      have o6' := o6.next l78
      have o7' := o7.next l8
      have zp : p.length ≤ 16 := by rw [hp.out]; have := (encs_len ((xs.drop at_).take n)).2; rw [HPL.out] at this; omega
      have hs2 : w.heap.size ≤ w2.heap.size := (bnext hbel l78).size
      have r8 := o8.rd
      have hq1 : (b.length + p.length) * 1 ≤ 140737488355328 := by omega
      have hq2 : b.length + p.length ≤ maxLen := by unfold maxLen; omega
      go_wp2_with (at_builtin; refine wpList_appRd w2 rfl _ _ 29 rfl w.heap.size 5 .u8 1 Tryd.underlying29 info_u8 c8 r8 _ rfl o6' rfl rfl hq1 hq2 hs2 ?_; intro A9 c9 b3 w3 hb3 o9 g9)
      have b9 := g9.below_ o6' hs2
      have o73 := ((g9.own o7'.v (sep_types o7'.v o6'.v u_ne)).ints).lower hsz
      have hfin := (bnext hbel l78).trans b9
      clear o5 o6 o6' o7 o7' o8 g9 l7 l8 l78 b9 r8
      go_roundw
      case rel =>
        refine ⟨k + 1, at_ + n, A7, c7, us1, A9, c9, b3, by omega, by omega, by go_num, by go_num, ?_, ?_, rfl, rfl, o73, o9, hfin⟩
        · show _ = _; rw [hu1.out, hU.out, take_more, encs16_append]
        · show _ = _; rw [hb3.out, hE.out, hp.out, take_more, encs_append]
      case measure => simp [intOf]; omega
    · have h1 : ¬ (k : Int) < (cs.length : Int) := by omega
      have hcut := fun W => run_cut_l (P := Tryd.prog) (w := W) 25 21 Tryd.underlying25 j32 J32.out.1 J32.out.2 A xs.length c at_ (at_ : Int) rfl hat
      go_wp2_with fail
      refine (encodeUnits_m ((hx.next hbel).drop c at_ hcap) (by rw [List.length_drop]) (hi.drop _) (by rw [List.length_drop]; omega)).mono ?_
      rintro e w1 ⟨A7, c7, u1, hu1, rfl, o7, l7⟩
      have o5' := o5.next l7
      have o6' := o6.next l7
      have hs1 : w.heap.size ≤ w1.heap.size := (bnext hbel l7).size
      have zu1 : u1.length ≤ 2097152 := by rw [hu1.out]; have := (encs16_len (xs.drop at_)).2; rw [List.length_drop] at this; omega
      have r7 := o7.rd
      have hq1 : (us.length + u1.length) * 2 ≤ 140737488355328 := by omega
      have hq2 : us.length + u1.length ≤ maxLen := by unfold maxLen; omega
      go_wp2_with (at_builtin; refine wpList_appRd w1 rfl _ _ 22 rfl w.heap.size 23 .u16 2 Tryd.underlying22 info_u16 c7 r7 _ rfl o5' rfl rfl hq1 hq2 hs1 ?_; intro A8 c8 u2 w2 hu2 o8 g8)
      have b8 := g8.below_ o5' hs1
      have o62 := (g8.own o6'.v (sep_types o6'.v o5'.v u_ne.symm)).ints
      have lw2 := (bnext hbel l7).trans b8
      have HU2 : Hid (u2 = encs16 xs) := by show _ = _; rw [hu2.out, hU.out, hu1.out, ← encs16_append, List.take_append_drop]
      have zu2 : xs.length ≤ u2.length := by rw [HU2.out]; exact (encs16_len xs).1
      have zu3 : u2.length ≤ 2097152 := by rw [HU2.out]; have := (encs16_len xs).2; omega
      clear o5 o6 o5' o6' o7 g8 l7 b8 r7 hbel hU hu1 hu2
      go_wp2_with fail
      refine (appendBytes_m o62.rd ((hx.next lw2).drop c at_ hcap) (by rw [List.length_drop]) (hi.drop _) (by rw [List.length_drop]; omega)).mono ?_
      rintro e w3 ⟨A9, c9, b3, hb3, rfl, o9, l9⟩
      have HB3 : Hid (b3 = encs xs) := by show _ = _; rw [hb3.out, hE.out, ← encs_append, List.take_append_drop]
      have zb3 : b3.length ≤ 4194304 := by rw [HB3.out]; have := (encs_len xs).2; omega
      have o83 := o8.next l9
      have lw3 := bnext lw2 l9
      clear o8 o62 l9 lw2 hb3 hE
      go_wp2_with fail
      refine (encodeUnits_any (hx.next lw3) hi (by omega)).mono ?_
      rintro e w4 ⟨A10, c10, u4, hu4, rfl, o10, l10⟩
      have HQ1 : Hid (decide (u2 = u4) = true) := by show _ = _; rw [HU2.out, hu4.out]; simp
      go_wp2_with fail
      refine (sameUnits_any (o83.next l10).rd o10.rd (by omega)).mono ?_
      rw [HQ1.out]
      rintro e w5 ⟨rfl, n5, rfl⟩
      have lw4 := bdrewN (bnext lw3 l10) n5
      have o84 := (o83.next l10).drewN n5
      have o94 := (o9.next l10).drewN n5
      clear o10 l10 o83 o9 HQ1 hu4 lw3
      generalize w4.drewN n5 = w5 at *
      go_wp2_with fail
      refine (appendNil_any (hx.next lw4) hi (by omega)).mono ?_
      rintro e w6 ⟨A11, c11, b6, hb6, rfl, o11, l11⟩
      have HQ2 : Hid (decide (b3 = b6) = true) := by show _ = _; rw [HB3.out, hb6.out]; simp
      go_wp2_with fail
      refine (sameBytes_any (o94.next l11).rd o11.rd (by omega)).mono ?_
      rw [HQ2.out]
      rintro e w7 ⟨rfl, n7, rfl⟩
      have lw6 := bdrewN (bnext lw4 l11) n7
      have o86 := (o84.next l11).drewN n7
      have o96 := (o94.next l11).drewN n7
      clear o11 l11 o84 o94 HQ2 hb6 lw4
      generalize w6.drewN n7 = w7 at *
      have wu2 : Units u2 := by rw [HU2.out]; exact encs16_units xs
      have yb3 : Bytes b3 := by rw [HB3.out]; exact encs_bytes xs
      go_wp2_with fail
      refine (decodeUnits_any o86.rd wu2 (by omega) (by have := dec16_le u2; omega)).mono ?_
      rintro e w8 ⟨A12, c12, d8, hd8, rfl, o12, l12⟩
      have HD8 : Hid (d8 = xs.map fix) := by show _ = _; rw [hd8.out, HU2.out, dec16_encs16']
      have zd8 : d8.length ≤ 1048576 := by rw [HD8.out, List.length_map]; exact hl
      go_wp2_with fail
      refine (runesOf_any (o96.next l12).rd rfl yb3 (hT.next (bnext lw6 l12)) (o96.next l12).len.2 (by omega)).mono ?_
      rintro e w9 ⟨A13, c13, d9, hd9, rfl, o13, l13⟩
      have HQ3 : Hid (decide (d8 = d9) = true) := by show _ = _; rw [HD8.out, hd9.out, HB3.out, runes8_fix]; simp
      go_wp2_with fail
      refine (sameRunes_any (o12.next l13).rd o13.rd (by omega)).mono ?_
      rw [HQ3.out]
      rintro e w10 ⟨rfl, n10, rfl⟩
      go_wp2
      go_ret
      exact ⟨rfl, bdrewN (bnext lw6 (bnext l12 l13)) n10⟩
end Go.Proofs.YtcbfbccmghdpgabDoor
