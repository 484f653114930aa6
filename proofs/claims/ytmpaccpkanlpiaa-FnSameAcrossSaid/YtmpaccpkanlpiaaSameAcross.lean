/- FnSameAcross: the walk. -/
import Derived.Test.YtmpaccpkanlpiaaUnits2
import Derived.Test.YtmpaccpkanlpiaaPlainMore
set_option linter.unusedVariables false
namespace Go.Proofs.Ytmpaccpkanlpiaa
open Go.RowKit P

set_option maxHeartbeats 2000000 in
theorem sameAcross_walk {A B : Option Addr} {fs ss : List Int} {c d : Nat} {w : World} (hf : Rd w .i32 A fs) (hs : Rd w .i32 B ss) (if_ : I32 fs) (is_ : I32 ss) (lf : fs.length ≤ 35184372088832) (ls : ss.length ≤ 35184372088832) :
    Calls Try.prog 16 #[.slice A fs.length c, .slice B ss.length d] w fun e w' => e = .returned (.bool true) ∧ Below w.heap.size w w' := by
  go_enter Try.func16, Try.ntmps16
  go_wp2_with fail
  refine (appendNil_any hf if_ (by omega)).mono ?_
  rintro e w1 ⟨A1, c1, b1, hb1, rfl, o1, l1⟩
  go_wp2_with fail
  refine (appendNil_any (hs.next l1) is_ (by omega)).mono ?_
  rintro e w2 ⟨A2, c2, b2, hb2, rfl, o2, l2⟩
  have z1 : b1.length ≤ 1000000000000000 := by rw [hb1.out]; have := (encs_len fs).2; omega
  go_wp2_with fail
  refine (sameBytes_any (o1.next l2).rd o2.rd z1).mono ?_
  rintro e w3 ⟨rfl, n3, rfl⟩
  have l3 : Below w.heap.size w (w2.drewN n3) := bdrewN (bnext l1 l2) n3
  have hf3 := hf.next l3
  have hs3 := hs.next l3
  have B1 : Hid (decide (b1 = b2) = decide (fs.map fix = ss.map fix)) := by show _ = _; rw [hb1.out, hb2.out]; exact decide_eq_decide.2 (encs_eq_iff fs ss)
  clear o1 o2 l1 l2 hf hs
  generalize w2.drewN n3 = w3 at *
  go_wp2_with fail
  refine (encodeUnits_any hf3 if_ (by omega)).mono ?_
  rintro e w4 ⟨A4, c4, u1, hu1, rfl, o4, l4⟩
  go_wp2_with fail
  refine (encodeUnits_any (hs3.next l4) is_ (by omega)).mono ?_
  rintro e w5 ⟨A5, c5, u2, hu2, rfl, o5, l5⟩
  have z4 : u1.length ≤ 1000000000000000 := by rw [hu1.out]; have := (encs16_len fs).2; omega
  go_wp2_with fail
  refine (sameUnits_any (o4.next l5).rd o5.rd z4).mono ?_
  rintro e w6 ⟨rfl, n6, rfl⟩
  have l6 : Below w3.heap.size w3 (w5.drewN n6) := bdrewN (bnext l4 l5) n6
  have hf6 := hf3.next l6
  have hs6 := hs3.next l6
  have l36 := bnext l3 l6
  have B2 : Hid (decide (u1 = u2) = decide (fs.map fix = ss.map fix)) := by show _ = _; rw [hu1.out, hu2.out]; exact decide_eq_decide.2 (encs16_eq_iff fs ss)
  clear o4 o5 l4 l5 hf3 hs3 l3 l6
  generalize w5.drewN n6 = w6 at *
  go_wp2_with fail
  refine (encodeUnits_any hf6 if_ (by omega)).mono ?_
  rintro e w7 ⟨A7, c7, v1, hv1, rfl, o7, l7⟩
  have z7 : v1.length ≤ 1000000000000000 := by rw [hv1.out]; have := (encs16_len fs).2; omega
  have y7 : (dec16 v1).length * 4 ≤ 140737488355328 := by rw [hv1.out, dec16_encs16', List.length_map]; omega
  have x7 : Units v1 := by rw [hv1.out]; exact encs16_units fs
  go_wp2_with fail
  refine (decodeUnits_any o7.rd x7 z7 y7).mono ?_
  rintro e w8 ⟨A8, c8, r1, hr1, rfl, o8, l8⟩
  go_wp2_with fail
  refine (encodeUnits_any (hs6.next (bnext l7 l8)) is_ (by omega)).mono ?_
  rintro e w9 ⟨A9, c9, v2, hv2, rfl, o9, l9⟩
  have z9 : v2.length ≤ 1000000000000000 := by rw [hv2.out]; have := (encs16_len ss).2; omega
  have y9 : (dec16 v2).length * 4 ≤ 140737488355328 := by rw [hv2.out, dec16_encs16', List.length_map]; omega
  have x9 : Units v2 := by rw [hv2.out]; exact encs16_units ss
  go_wp2_with fail
  refine (decodeUnits_any o9.rd x9 z9 y9).mono ?_
  rintro e w10 ⟨A10, c10, r2, hr2, rfl, o10, l10⟩
  have z10 : r1.length ≤ 1000000000000000 := by rw [hr1.out, hv1.out, dec16_encs16', List.length_map]; omega
  go_wp2_with fail
  refine (sameRunes_any (o8.next (bnext l9 l10)).rd o10.rd z10).mono ?_
  rintro e w11 ⟨rfl, n11, rfl⟩
  have l11 : Below w6.heap.size w6 (w10.drewN n11) := bdrewN (bnext (bnext l7 l8) (bnext l9 l10)) n11
  have hf11 := hf6.next l11
  have l61 := bnext l36 l11
  have B3 : Hid (decide (r1 = r2) = decide (fs.map fix = ss.map fix)) := by show _ = _; rw [hr1.out, hr2.out, hv1.out, hv2.out, dec16_encs16', dec16_encs16']
  clear o7 o8 o9 o10 l7 l8 l9 l10 hf6 hs6 l36 l11 y7 y9 z7 z9 z10 x7 x9
  generalize w10.drewN n11 = w11 at *
  have E1 := B1.out
  have E2 := B2.out
  have E3 := B3.out
  generalize decide (fs.map fix = ss.map fix) = q at E1 E2 E3
  cases q
  all_goals
    go_wp2_with fail
    refine (encodeUnits_any hf11 if_ (by omega)).mono ?_
    rintro e w12 ⟨A12, c12, t1, ht1, rfl, o12, l12⟩
    have y12 : fs.length ≤ t1.length := by rw [ht1.out]; exact (encs16_len fs).1
    go_wp2
    go_ret
    exact ⟨rfl, bnext l61 l12⟩
end Go.Proofs.Ytmpaccpkanlpiaa
