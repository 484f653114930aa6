/- FnExactDecodeScript: the walk. -/
import Derived.Test.YtcbfbccmghdpgaaDoorScriptS
import Derived.Test.YtcbfbccmghdpgaaDoorExact
set_option linter.unusedVariables false
namespace Go.Proofs.YtcbfbccmghdpgaaDoor
open Go.RowKit P

theorem Own.n {w : World} {base : Nat} {e : TypeId} {k : IntKind} {v : Value} {xs : List Int} (h : Own w base e k v xs) : OwnN w base e v xs.length (xs.map (Value.int k)) := h
theorem OwnB.n {w : World} {base : Nat} {e : TypeId} {v : Value} {xs : List Bool} (h : OwnB w base e v xs) : OwnN w base e v xs.length (xs.map Value.bool) := h
theorem grow_of {w w' : World} {v : Value} (h : w.grownBy w' v.ownBlock) : Grow w w' v v := ⟨h, .inl rfl⟩
theorem ne_8_32 : (21 : TypeId) ≠ 5 := by decide
theorem ne_8_64 : (3 : TypeId) ≠ 5 := by decide
theorem ne_8_b : (4 : TypeId) ≠ 5 := by decide
theorem ne_b_32 : (21 : TypeId) ≠ 4 := by decide
theorem ne_b_64 : (3 : TypeId) ≠ 4 := by decide
theorem ne_32_64 : (3 : TypeId) ≠ 21 := by decide

set_option maxRecDepth 100000 in
set_option maxHeartbeats 8000000 in
theorem exactDecodeScript_walk {A B : Option Addr} {l : List Int} {ts : List Bool} {c d : Nat} {w : World} (hr : Rd w .u8 A l) (hb : Bytes l) (hcap : l.length ≤ c) (hl : l.length ≤ 1048576) (hB : RdB w B ts) (hlt : ts.length ≤ 1048576) (hT : Tabs w) :
    Calls Tryd.prog 8 #[.slice A l.length c, .slice B ts.length d] w fun e w' => e = .returned (.bool true) ∧ Below w.heap.size w w' := by
  have BY := Lib.hid hb
  have hl1 : ¬ (l.length : Int) > 1048576 := by omega
  have hl2 : ¬ (ts.length : Int) > 1048576 := by omega
  go_enter Tryd.func8, Tryd.ntmps8
  go_wp2_with fail
  refine (toByteS_any hr (by omega)).mono ?_
  rintro e w1 ⟨A1, c1, b1, hb1, rfl, o1, l1⟩
  obtain rfl : l = b1 := hb1.out.symm
  clear hb1
  go_wp2_with fail
  refine (toBoolS_any (hB.next l1) (by omega)).mono ?_
  rintro e w2 ⟨A2, c2, b2, hb2, rfl, o2, l2⟩
  obtain rfl : ts = b2 := hb2.out.symm
  clear hb2
  have L2 := bnext l1 l2
  go_wp2_with fail
  refine (decodeScriptS_any (o1.next l2).rd BY.out o1.len.2 o1.lies (by omega) o2.rd (by omega)).mono ?_
  rintro e w3 ⟨A3, c3, A4, c4, r0, s0, hr0, hs0, rfl, o3, o4, l3⟩
  have L3 := bnext L2 l3
  have z3 := L3.size
  have zr : r0.length = ts.length := by rw [hr0.out, List.length_map, script_len]
  have zs : s0.length = ts.length := by rw [hs0.out, List.length_map, script_len]
  have zr1 : r0.length ≤ 1048576 := by omega
  have zs1 : s0.length ≤ 1048576 := by omega
  clear zr zs o1 o2 l1 l2 l3 L2
  go_wp2_with fail
  refine (toByteS_any (hr.next L3) (by omega)).mono ?_
  rintro e w4 ⟨A5, c5, b1, hb1, rfl, o5, l4⟩
  obtain rfl : l = b1 := hb1.out.symm
  clear hb1
  have L4 := bnext L3 l4
  go_wp2_with fail
  refine (toBoolS_any (hB.next L4) (by omega)).mono ?_
  rintro e w5 ⟨A6, c6, b2, hb2, rfl, o6, l5⟩
  obtain rfl : ts = b2 := hb2.out.symm
  clear hb2
  have L5 := bnext L4 l5
  have k5 := bnext l4 l5
  have o5' := o5.next l5
  go_wp2_with fail
  refine (decodeScript_any o5'.rd BY.out (hT.next L5) o5'.len.2 o5'.lies (by omega) o6.rd (by omega)).mono ?_
  rintro e w6 ⟨A7, c7, A8, c8, r1, s1, hr1, hs1, rfl, o7, o8, l6⟩
  obtain rfl : r0 = r1 := hr0.out.trans hr1.out.symm
  obtain rfl : s0 = s1 := hs0.out.trans hs1.out.symm
  clear hr1 hs1
  have L6 := bnext L5 l6
  have k6 := bnext k5 l6
  have o3' := o3.next k6
  have o4' := o4.next k6
  have o56 := o5'.next l6
  have o66 := o6.next l6
  have x7 := o7.lower (b := w3.heap.size) k5.size
  have x8 := o8.lower (b := w3.heap.size) k5.size
  have x5 := o56
  have x6 : OwnB w6 w3.heap.size _ _ _ := (OwnV.lower o66.vs l4.size).bools
  clear o5 o5' o6 l4 l5 l6 k5 o56 o66 L3 L4 L5 o7 o8
  go_wp2_with fail
  refine (eqInt32S_same x7.rd o3'.rd rfl (by omega)).mono ?_
  rintro e w7 ⟨rfl, n7, rfl⟩
  go_wp2_with fail
  refine (eqIntS_same (x8.rd.drewN n7) (o4'.rd.drewN n7) rfl (by omega)).mono ?_
  rintro e w7 ⟨rfl, n8, rfl⟩
  go_wp2_with fail
  refine (toByteS_any ((hr.next L6).drewN (n7 + n8)) (by omega)).mono ?_
  rintro e w9 ⟨A9, c9, b1, hb1, rfl, o9, l9⟩
  obtain rfl : l = b1 := hb1.out.symm
  clear hb1
  have L9 := bnext (bdrewN L6 (n7 + n8)) l9
  have k9 := bnext (bdrewN k6 (n7 + n8)) l9
  have y5 := (x5.drewN (n7 + n8)).next l9
  have y6 : OwnB w9 _ _ _ _ := OwnB.next (w := w6.drewN (n7 + n8)) x6 l9
  have y7 := (x7.drewN (n7 + n8)).next l9
  have y8 := (x8.drewN (n7 + n8)).next l9
  clear x5 x6 x7 x8 o3' o4' k6 l9 L6
  go_wp2_with fail
  refine (eqByteS_same y5.rd o9.rd rfl (by omega)).mono ?_
  rintro e w10 ⟨rfl, n10, rfl⟩
  go_wp2_with fail
  refine (toBoolS_any ((hB.next L9).drewN n10) (by omega)).mono ?_
  rintro e w11 ⟨A10, c10, b2, hb2, rfl, o10, l11⟩
  obtain rfl : ts = b2 := hb2.out.symm
  clear hb2
  have L11 := bnext (bdrewN L9 n10) l11
  have k11 := bnext (bdrewN k9 n10) l11
  have x5 := (y5.drewN n10).next l11
  have x6 : OwnB w11 _ _ _ _ := OwnB.next (w := w9.drewN n10) y6 l11
  have x7 := (y7.drewN n10).next l11
  have x8 := (y8.drewN n10).next l11
  clear y5 y6 y7 y8 o9 l11 L9 k9
  go_wp2_with fail
  refine (eqBoolS_same x6.rd o10.rd rfl (by omega)).mono ?_
  rintro e w12 ⟨rfl, n12, rfl⟩
  go_wp2_with fail
  refine (markByteS_any (w := w11.drewN n12) 1 (x5.drewN n12).n (by omega) (by omega)).mono ?_
  rintro e w13 ⟨rfl, g13⟩
  have G13 := grow_of g13
  have m13 : Below w3.heap.size (w11.drewN n12) w13 := G13.below (x5.drewN n12).v k11.size
  have k13 : Below w3.heap.size w3 w13 := (bdrewN k11 n12).trans m13
  have L13 : Below w.heap.size w w13 := (bdrewN L11 n12).trans (m13.mono z3)
  have y6 : OwnB w13 _ _ _ _ := (G13.own (OwnV.drewN x6.vs n12) (sep_types (OwnV.drewN x6.vs n12) (x5.drewN n12).v ne_8_b)).bools
  have y7 := (G13.own (x7.drewN n12).v (sep_types (x7.drewN n12).v (x5.drewN n12).v ne_8_32)).ints
  have y8 := (G13.own (x8.drewN n12).v (sep_types (x8.drewN n12).v (x5.drewN n12).v ne_8_64)).ints
  clear x5 x6 x7 x8 g13 G13 m13 k11 L11 o10
  go_wp2_with fail
  refine (markBoolS_any (w := w13) (1 + (l.length : Int)) y6.n (by omega) (by omega)).mono ?_
  rintro e w14 ⟨rfl, g14⟩
  have G14 := grow_of g14
  have m14 : Below w3.heap.size w13 w14 := G14.below y6.vs k13.size
  have k14 := k13.trans m14
  have L14 : Below w.heap.size w w14 := L13.trans (m14.mono z3)
  have x7 := (G14.own y7.v (sep_types y7.v y6.vs ne_b_32)).ints
  have x8 := (G14.own y8.v (sep_types y8.v y6.vs ne_b_64)).ints
  have p3 := o3.next k14
  have p4 := o4.next k14
  clear y6 y7 y8 g14 G14 m14 k13 L13
  have h18 : ¬ 1 + (l.length : Int) + (ts.length : Int) < 0 := by omega
  go_wp2_with fail
  refine (eqInt32S_same x7.rd p3.rd rfl (by omega)).mono ?_
  rintro e w7 ⟨rfl, n15, rfl⟩
  go_wp2_with fail
  refine (eqIntS_same (x8.rd.drewN n15) (p4.rd.drewN n15) rfl (by omega)).mono ?_
  rintro e w7 ⟨rfl, n16, rfl⟩
  clear p3 p4 h18
  go_wp2_with fail
  refine (markInt32S_any (w := w14.drewN (n15 + n16)) 1 (x7.drewN (n15 + n16)).n (by omega) (by omega)).mono ?_
  rintro e w15 ⟨rfl, g15, ys, hys, y7⟩
  have G15 := grow_of g15
  have m15 : Below w3.heap.size (w14.drewN (n15 + n16)) w15 := G15.below (x7.drewN (n15 + n16)).v k14.size
  have k15 : Below w3.heap.size w3 w15 := (bdrewN k14 (n15 + n16)).trans m15
  have L15 : Below w.heap.size w w15 := (bdrewN L14 (n15 + n16)).trans (m15.mono z3)
  have y8 := (G15.own (x8.drewN (n15 + n16)).v (sep_types (x8.drewN (n15 + n16)).v (x7.drewN (n15 + n16)).v ne_32_64)).ints
  clear x7 x8 g15 G15 m15 k14 L14
  go_wp2_with fail
  refine (markIntS_any (w := w15) (1 + (r0.length : Int)) y8.n (by omega) (by omega)).mono ?_
  rintro e w16 ⟨rfl, g16, zs, hzs, x8⟩
  have G16 := grow_of g16
  have m16 : Below w3.heap.size w15 w16 := G16.below y8.v k15.size
  have k16 := k15.trans m16
  have L16 : Below w.heap.size w w16 := L15.trans (m16.mono z3)
  have x7 := (G16.own y7.v (sep_types y7.v y8.v ne_32_64.symm)).ints
  clear y7 y8 g16 G16 m16 k15 L15
  have h1 : ¬ 1 + (r0.length : Int) < 0 := by omega
  have h2 : ¬ 1 + (r0.length : Int) + (s0.length : Int) < 0 := by omega
  go_wp2_with fail
  refine (heldInt32S_any (n := r0.length) 1 x7.rd hys (by omega) (by omega)).mono ?_
  rintro e w17 ⟨rfl, rfl⟩
  go_wp2_with fail
  refine (heldIntS_any (n := s0.length) (1 + (r0.length : Int)) x8.rd hzs (by omega) (by omega)).mono ?_
  rintro e w17 ⟨rfl, rfl⟩
  go_wp2_with fail
  refine (toByteS_any (hr.next L16) (by omega)).mono ?_
  rintro e w1 ⟨A1, c1, b1, hb1, rfl, o1, l1⟩
  obtain rfl : l = b1 := hb1.out.symm
  clear hb1
  have L1 := bnext L16 l1
  go_wp2_with fail
  refine (toBoolS_any (hB.next L1) (by omega)).mono ?_
  rintro e w2 ⟨A2, c2, b2, hb2, rfl, o2, l2⟩
  obtain rfl : ts = b2 := hb2.out.symm
  clear hb2
  have L2 := bnext L1 l2
  go_wp2_with fail
  refine (decodeScript_any (o1.next l2).rd BY.out (hT.next L2) o1.len.2 o1.lies (by omega) o2.rd (by omega)).mono ?_
  rintro e w4 ⟨A11, c11, A12, c12, r1, s1, hr1, hs1, rfl, o11, o12, l4⟩
  obtain rfl : r0 = r1 := hr0.out.trans hr1.out.symm
  obtain rfl : s0 = s1 := hs0.out.trans hs1.out.symm
  clear hr1 hs1
  have l14 := bnext (bnext l1 l2) l4
  have L4 := bnext L2 l4
  have k4 := k16.trans (l14.mono k16.size)
  have y7 := x7.next l14
  have y8 := x8.next l14
  have p3 := o3.next k4
  have p4 := o4.next k4
  clear o1 o2 l1 l2 l4 L1 L2 x7 x8 l14 k4 k16 L16 o3 o4
  go_wp2_with fail
  refine (eqInt32S_same o11.rd p3.rd rfl (by omega)).mono ?_
  rintro e w7 ⟨rfl, n17, rfl⟩
  go_wp2_with fail
  refine (eqIntS_same (o12.rd.drewN n17) (p4.rd.drewN n17) rfl (by omega)).mono ?_
  rintro e w7 ⟨rfl, n18, rfl⟩
  go_wp2_with fail
  refine (heldInt32S_any (n := r0.length) (w := w4.drewN (n17 + n18)) 1 (y7.drewN _).rd hys (by omega) (by omega)).mono ?_
  rintro e w17 ⟨rfl, rfl⟩
  go_wp2_with fail
  refine (heldIntS_any (n := s0.length) (w := w4.drewN (n17 + n18)) (1 + (r0.length : Int)) (y8.drewN _).rd hzs (by omega) (by omega)).mono ?_
  rintro e w17 ⟨rfl, rfl⟩
  go_wp2
  go_ret
  exact ⟨rfl, bdrewN L4 _⟩
end Go.Proofs.YtcbfbccmghdpgaaDoor
