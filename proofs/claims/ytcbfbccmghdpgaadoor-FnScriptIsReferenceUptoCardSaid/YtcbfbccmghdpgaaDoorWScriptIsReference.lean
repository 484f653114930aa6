/- FnScriptIsReference: the walk. -/
import Derived.Test.YtcbfbccmghdpgaaDoorScriptS
import Derived.Test.YtcbfbccmghdpgaaDoorStep2
set_option linter.unusedVariables false
namespace Go.Proofs.YtcbfbccmghdpgaaDoor
open Go.RowKit P

set_option maxRecDepth 100000 in
set_option maxHeartbeats 4000000 in
theorem scriptIsReference_walk {A B : Option Addr} {l : List Int} {ts : List Bool} {c d : Nat} {w : World} (hr : Rd w .u8 A l) (hb : Bytes l) (hcap : l.length ≤ c) (hl : l.length ≤ 1048576) (hB : RdB w B ts) (hlt : ts.length ≤ 1048576) (hT : Tabs w) :
    Calls Tryd.prog 9 #[.slice A l.length c, .slice B ts.length d] w fun e w' => e = .returned (.bool true) ∧ Below w.heap.size w w' := by
  have BY := Lib.hid hb
  go_enter Tryd.func9, Tryd.ntmps9
  go_wp2_with fail
  refine (copied_any hr (by omega)).mono ?_
  rintro e w1 ⟨A1, c1, b1, hb1, rfl, o1, l1⟩
  have yb1 : Bytes b1 := by rw [hb1.out]; exact BY.out
  have zb1 : b1.length ≤ 1048576 := by rw [hb1.out]; exact hl
  go_wp2_with fail
  refine (decodeScript_any o1.rd yb1 (hT.next l1) o1.len.2 o1.lies (by omega) (hB.next l1) (by omega)).mono ?_
  rintro e w2 ⟨A2, c2, A3, c3, r1, s1, hr1, hs1, rfl, o2, o3, l2⟩
  have l12 := bnext l1 l2
  go_wp2_with fail
  refine (copied_any (hr.next l12) (by omega)).mono ?_
  rintro e w3 ⟨A4, c4, b2, hb2, rfl, o4, l3⟩
  have yb2 : Bytes b2 := by rw [hb2.out]; exact BY.out
  have zb2 : b2.length ≤ 1048576 := by rw [hb2.out]; exact hl
  have l13 := bnext l12 l3
  go_wp2_with fail
  refine (decodeScriptS_any o4.rd yb2 o4.len.2 o4.lies (by omega) (hB.next l13) (by omega)).mono ?_
  rintro e w4 ⟨A5, c5, A6, c6, r2, s2, hr2, hs2, rfl, o5, o6, l4⟩
  have l34 := bnext l3 l4
  have l14 := bnext l13 l4
  have HQ1 : Hid (decide (r1 = r2) = true) := by
    show _ = _
    rw [hr1.out, hr2.out, hb1.out, hb2.out]; simp
  have HQ2 : Hid (decide (s1 = s2) = true) := by
    show _ = _
    rw [hs1.out, hs2.out, hb1.out, hb2.out]; simp
  have zr1 : r1.length ≤ 1048576 := by rw [hr1.out, List.length_map, script_len]; omega
  have zs1 : s1.length ≤ 1048576 := by rw [hs1.out, List.length_map, script_len]; omega
  go_wp2_with fail
  refine (sameRunes_any (o2.next l34).rd o5.rd (by omega)).mono ?_
  rw [HQ1.out]
  rintro e w9 ⟨rfl, n9, rfl⟩
  go_wp2_with fail
  refine (sameSizes_any ((o3.next l34).rd.drewN n9) (o6.rd.drewN n9) (by omega)).mono ?_
  rw [HQ2.out]
  rintro e w10 ⟨rfl, n10, rfl⟩
  go_wp2
  go_ret
  exact ⟨rfl, bdrewN l14 _⟩
end Go.Proofs.YtcbfbccmghdpgaaDoor
