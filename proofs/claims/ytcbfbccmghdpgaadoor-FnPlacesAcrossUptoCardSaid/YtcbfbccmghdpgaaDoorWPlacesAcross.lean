/- FnPlacesAcross: the walk. -/
import Derived.Test.YtcbfbccmghdpgaaDoorPlainIdx
import Derived.Test.YtcbfbccmghdpgaaDoorStep2
import Derived.Test.YtcbfbccmghdpgaaDoorQuiet
set_option linter.unusedVariables false
namespace Go.Proofs.YtcbfbccmghdpgaaDoor
open Go.RowKit P

def U (g : List Int) (i : Nat) : Nat := (encs16 (g.take i)).length
theorem U_succ {g : List Int} {i : Nat} {r : Int} (h : g[i]? = some r) : U g (i + 1) = U g i + (enc16 r).length := by
  unfold U; rw [take_snoc h, encs16_append, encs16_one, List.length_append]
theorem drop_L (g : List Int) (k : Nat) : (encs g).drop (L g k) = encs (g.drop k) := by
  unfold L; rw [encs_take_drop g k]; simp
theorem drop_U (g : List Int) (k : Nat) : (encs16 g).drop (U g k) = encs16 (g.drop k) := by
  have h : encs16 g = encs16 (g.take k) ++ encs16 (g.drop k) := by rw [← encs16_append, List.take_append_drop]
  unfold U; rw [h]; simp
theorem decodeUnits_q {A : Option Addr} {us : List Int} {c n : Nat} {w : World} (hu : Rd w .u16 A us) (hn : us.length = n) (hw : Units us) (hlu : us.length ≤ 16777216) :
    Calls Tryd.prog 15 #[.slice A n c] w (Made w 21 .i32 (dec16 us)) := by
  subst hn; exact decodeUnits_any hu hw (by omega) (by have := dec16_le us; omega)
theorem good_lens {r : Int} (h : good r = true) : len8 r = ((enc r).length : Int) ∧ len16 r = ((enc16 r).length : Int) := by
  unfold len8 len16; rw [if_pos h, if_pos h]; exact ⟨rfl, rfl⟩

set_option maxRecDepth 100000 in
set_option maxHeartbeats 12000000 in
theorem placesAcross_walk {A : Option Addr} {xs : List Int} {c : Nat} {w : World} (hx : Rd w .i32 A xs) (hi : I32 xs) (hT : Tabs w) (hl : xs.length ≤ 1048576) :
    Calls Tryd.prog 6 #[.slice A xs.length c] w fun e w' => e = .returned (.bool true) ∧ Below w.heap.size w w' := by
  obtain ⟨j32, hj32, _, hs32, _⟩ := info_parts info_i32
  obtain ⟨j16, hj16, _, hs16, _⟩ := info_parts info_u16
  obtain ⟨j8, hj8, _, hs8, _⟩ := info_parts info_u8
  have J32 := Lib.hid (And.intro hj32 hs32)
  have J16 := Lib.hid (And.intro hj16 hs16)
  have J8 := Lib.hid (And.intro hj8 hs8)
  clear hj32 hs32 hj8 hs8 hj16 hs16
  go_enter Tryd.func6, Tryd.ntmps6
  go_wp2_with fail
  refine (goods_any hx (by omega)).mono ?_
  rintro e w1 ⟨A1, c1, g, hg, rfl, o1, l1⟩
  have zg : g.length ≤ 1048576 := by rw [hg.out]; have := filter_le xs; omega
  have ig := hi.good hg.out
  have GG : Hid (∀ r ∈ g, good r = true) := by show ∀ r ∈ g, good r = true; rw [hg.out]; exact good_filter xs
  go_wp2_with fail
  refine (appendNil_any o1.rd ig (by omega)).mono ?_
  rintro e w2 ⟨A2, c2, b, hb, rfl, o2, l2⟩
  have zb : b.length ≤ 4194304 := by rw [hb.out]; have := (encs_len g).2; omega
  have BY : Hid (Bytes b) := by show Bytes b; rw [hb.out]; exact encs_bytes g
  have HB : Hid (b = encs g) := hb
  go_wp2_with fail
  refine (encodeUnits_any (o1.next l2).rd ig (by omega)).mono ?_
  rintro e w3 ⟨A3, c3, us, hus, rfl, o3, l3⟩
  have zu : us.length ≤ 2097152 := by rw [hus.out]; have := (encs16_len g).2; omega
  have WU : Hid (Units us) := by show Units us; rw [hus.out]; exact encs16_units g
  have HU : Hid (us = encs16 g) := hus
  have l13 := bnext l2 l3
  go_wp2_with fail
  refine (byteLens_any (o1.next l13).rd (by omega)).mono ?_
  rintro e w4 ⟨A4, c4, ls, hls, rfl, o4, l4⟩
  go_wp2_with fail
  refine (unitLens_any (o1.next (bnext l13 l4)).rd (by omega)).mono ?_
  rintro e w5 ⟨A5, c5, ul, hul, rfl, o5, l5⟩
  have ZL : Hid (ls.length = g.length) := by show _ = _; rw [hls.out, List.length_map]
  have ZU : Hid (ul.length = g.length) := by show _ = _; rw [hul.out, List.length_map]
  have t1 : ((ls.length : Int) != (g.length : Int)) = false := by simp only [bne_eq_false_iff_eq]; rw [ZL.out]
  have t2 : ((ul.length : Int) != (g.length : Int)) = false := by simp only [bne_eq_false_iff_eq]; rw [ZU.out]
  have l45 := bnext l4 l5
  have rg := (o1.next (bnext l13 l45)).rd
  have rb := (o2.next (bnext l3 l45)).rd
  have ru := (o3.next l45).rd
  have rl := (o4.next l5).rd
  have rul := o5.rd
  have kg := o1.len.2
  have kb := o2.len.2
  have ku := o3.len.2
  have l05 := bnext (bnext l1 l13) l45
  have hT5 := hT.next l05
  clear o1 o2 o3 o4 o5 l1 l2 l3 l4 l5 l13 l45 hx hT hg hb hus ig
  go_wp2
  go_loopw [8, 9, 35] (fun v8 v9 v35 wr => ∃ (k at_ un : Nat), k ≤ g.length ∧ at_ ≤ b.length ∧ un ≤ us.length ∧ v8 = .int .i64 at_ ∧ v9 = .int .i64 un ∧ v35 = .int .i64 k ∧ Hid (at_ = L g k) ∧ Hid (un = U g k) ∧ Below w5.heap.size w5 wr) (fun _ _ v35 _ => g.length - (intOf v35).toNat)
  case atStart => exact ⟨0, 0, 0, Nat.zero_le _, Nat.zero_le _, Nat.zero_le _, rfl, rfl, rfl, rfl, rfl, Below.refl _ _⟩
  case round =>
    obtain ⟨k, at_, un, hk, hat, hun, rfl, rfl, rfl, hA, hN, hbel⟩ := hrel
    by_cases hlt : k < g.length
    · have hr : g[k]? = some g[k] := List.getElem?_eq_getElem hlt
      have hgr := GG.out _ (List.getElem_mem hlt)
      generalize g[k] = r at *
      obtain ⟨b1, off1, x, hA1, hb1, hx, hc1⟩ := (rl.next hbel).at_ (i := k) (by rw [ZL.out]; exact hlt)
      obtain ⟨b2, off2, y, hA2, hb2, hy, hc2⟩ := (rul.next hbel).at_ (i := k) (by rw [ZU.out]; exact hlt)
      have hxe : x = ((enc r).length : Int) := by rw [hls.out, List.getElem?_map, hr] at hx; rw [← (good_lens hgr).1]; simpa using hx.symm
      have hye : y = ((enc16 r).length : Int) := by rw [hul.out, List.getElem?_map, hr] at hy; rw [← (good_lens hgr).2]; simpa using hy.symm
      have hs1 := L_succ hr
      have hs2 := U_succ hr
      have hm1 : L g (k + 1) ≤ b.length := by rw [HB.out, ← L_all]; exact L_mono g _ _ (by omega)
      have hm2 : U g (k + 1) ≤ us.length := by
        have := congrArg List.length (encs16_split hr)
        rw [HU.out, hs2]; unfold U; simp only [List.length_append] at this; omega
      have el := (enc_len r).1
      have el2 := (enc_len r).2
      have el3 := (enc16_len r).1
      have el4 := (enc16_len r).2
      have HNA : Hid (at_ + (enc r).length = L g (k + 1)) := by show _ = _; rw [hs1, ← hA.out]
      have HNU : Hid (un + (enc16 r).length = U g (k + 1)) := by show _ = _; rw [hs2, ← hN.out]
      have zn1 : at_ + (enc r).length ≤ b.length := by rw [HNA.out]; exact hm1
      have zn2 : un + (enc16 r).length ≤ us.length := by rw [HNU.out]; exact hm2
      subst hA1 hA2 hxe hye
      clear hx hy hs1 hs2 hm1 hm2 hr
      generalize (enc r).length = n1 at *
      generalize (enc16 r).length = n2 at *
      have h1 : (k : Int) < (g.length : Int) := by omega
      have h2 : (k : Int) < (ls.length : Int) := by rw [ZL.out]; omega
      have h3 : (k : Int) < (ul.length : Int) := by rw [ZU.out]; omega
      have h4 : (0 : Int) ≤ (k : Int) := by omega
      have q1 := fun W => run_cut_l (P := Tryd.prog) (w := W) 29 5 Tryd.underlying29 j8 J8.out.1 J8.out.2 A2 b.length c2 at_ (at_ : Int) rfl (by omega)
      have q2 := fun W => run_cut_l (P := Tryd.prog) (w := W) 22 21 Tryd.underlying22 j32 J32.out.1 J32.out.2 A1 g.length c1 k (k : Int) rfl (by omega)
      have q3 := fun W => run_cut_l (P := Tryd.prog) (w := W) 25 74 Tryd.underlying25 j16 J16.out.1 J16.out.2 A3 us.length c3 un (un : Int) rfl (by omega)
      have rdB := (rb.next hbel).drop c2 at_ kb
      have rdU := (ru.next hbel).drop c3 un ku
      have rdG := (rg.next hbel).drop c1 k kg
      have ZB : Hid ((b.drop at_).length = b.length - at_) := List.length_drop
      have ZUU : Hid ((us.drop un).length = us.length - un) := List.length_drop
      have ZG : Hid ((g.drop k).length = g.length - k) := List.length_drop
      have YB : Hid (Bytes (b.drop at_)) := BY.out.drop _
      have YU : Hid (Units (us.drop un)) := fun x hx => WU.out x (List.mem_of_mem_drop hx)
      have hTr := hT5.next hbel
      have E1 : Hid (runes8 (b.drop at_) = g.drop k) := by show _ = _; rw [HB.out, hA.out, drop_L, runes8_encs fun r hr => GG.out r (List.mem_of_mem_drop hr)]
      have E2 : Hid (dec16 (us.drop un) = g.drop k) := by show _ = _; rw [HU.out, hN.out, drop_U, dec16_encs16', map_fix_good fun r hr => GG.out r (List.mem_of_mem_drop hr)]
      have zc1 : (b.drop at_).length ≤ c2 - at_ := by rw [ZB.out]; omega
      have zc2 : (b.drop at_).length ≤ 17592186044416 := by rw [ZB.out]; omega
      have zc3 : (us.drop un).length ≤ 16777216 := by rw [ZUU.out]; omega
      go_wp2_with fail
      go_region_with (first
        | (go_at_call 17; refine (sameRunes_n o7.rd (rdG.next L7) rfl ZG.out zr2).mono ?_; rw [HQ2.out]; rintro e w8 ⟨rfl, n8, rfl⟩; have L8 := bdrewN L7 n8)
        | (go_at_call 15; refine (decodeUnits_q (rdU.next L6) ZUU.out YU.out zc3).mono ?_; rintro e w7 ⟨A7, c7, r2, hr2, rfl, o7, l7⟩; have L7 := bnext L6 l7; have HQ2 : Hid (decide (r2 = g.drop k) = true) := (by show _ = _; rw [hr2.out, E2.out]; simp); have zr2 : r2.length ≤ 1000000000000000 := (by rw [hr2.out, E2.out, ZG.out]; omega))
        | (go_at_call 17; refine (sameRunes_n o5.rd (rdG.next L5) rfl ZG.out zr1).mono ?_; rw [HQ1.out]; rintro e w6 ⟨rfl, n6, rfl⟩; have L6 := bdrewN L5 n6)
        | (go_at_call 18; refine (runesOf_any (w := wr.drew) rdB.drew ZB.out YB.out hTr zc1 zc2).mono ?_; rintro e w55 ⟨A55, c55, r1, hr1, rfl, o5, l5'⟩; have L5 := below_drew l5'; have HQ1 : Hid (decide (r1 = g.drop k) = true) := (by show _ = _; rw [hr1.out, E1.out]; simp); have zr1 : r1.length ≤ 1000000000000000 := (by rw [hr1.out, E1.out, ZG.out]; omega)))
      all_goals
        have hb8 := bnext hbel L8
        have hk1 := (L7.cell (p := ⟨b1, off1 + k, none⟩) hb1).trans hc1
        have hk2 := (L7.cell (p := ⟨b2, off2 + k, none⟩) hb2).trans hc2
        clear o5 o7 L5 L6 L7 L8 q1 q2 q3 rdB rdU rdG
        go_wp2
        go_roundw
        case rel => exact ⟨k + 1, at_ + n1, un + n2, by omega, by omega, by omega, by go_num, by go_num, by go_num, HNA, HNU, hb8⟩
        case measure => simp [intOf]; omega
    · have h1 : ¬ (k : Int) < (g.length : Int) := by omega
      have hkg : k = g.length := by omega
      have h2 : ((at_ : Int) == (b.length : Int)) = true := by simp only [beq_iff_eq]; rw [hA.out, hkg, L_all, HB.out]
      have h3 : ((un : Int) == (us.length : Int)) = true := by simp only [beq_iff_eq]; rw [hN.out, hkg, HU.out]; unfold U; rw [List.take_length]
      clear hkg hA hN
      go_wp2
      go_ret
      exact ⟨rfl, bnext l05 hbel⟩
end Go.Proofs.YtcbfbccmghdpgaaDoor
