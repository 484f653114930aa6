/- FnPlacesOfStarts: the walk. -/
import Derived.Test.YtmpaccpkanlpiaaPlainEnds
import Derived.Test.YtmpaccpkanlpiaaWGoods
set_option linter.unusedVariables false
namespace Go.Proofs.Ytmpaccpkanlpiaa
open Go.RowKit P

theorem isEnd_q {A : Option Addr} {xs : List Int} {c : Nat} {w : World} (hx : Rd w .i64 A xs) (at' : Int) (hl : xs.length ≤ 1000000000000000) :
    Calls Try.prog 31 #[.slice A xs.length c, .int .i64 at'] w fun e w' => e = .returned (.bool (decide (at' ∈ xs))) ∧ w' = w := (isEnd_any hx at' hl).mono fun _ _ h => ⟨h.1, h.2.symm⟩

set_option maxHeartbeats 4000000 in
theorem placesOfStarts_walk {A : Option Addr} {xs : List Int} {c : Nat} {w : World} (hx : Rd w .i32 A xs) (hi : I32 xs) (hl : xs.length ≤ 1048576) :
    Calls Try.prog 6 #[.slice A xs.length c] w fun e w' => e = .returned (.bool true) ∧ Below w.heap.size w w' := by
  go_enter Try.func6, Try.ntmps6
  go_wp2_with fail
  refine (goodOnes_any hx (by omega)).mono ?_
  rintro e w1 ⟨A1, c1, g, hg, rfl, o1, l1⟩
  have zg : g.length ≤ 1048576 := by rw [hg.out]; have := filter_le xs; omega
  have ig := hi.good hg.out
  have gg : ∀ r ∈ g, good r = true := by rw [hg.out]; exact good_filter xs
  have GG := Lib.hid gg
  clear gg hx
  go_wp2_with fail
  refine (appendNil_any o1.rd ig (by omega)).mono ?_
  rintro e w2 ⟨A2, c2, b, hb, rfl, o2, l2⟩
  go_wp2_with fail
  refine (byteLens_any (o1.next l2).rd (by omega)).mono ?_
  rintro e w3 ⟨A3, c3, ls, hls, rfl, o3, l3⟩
  have zl : ls.length ≤ 1048576 := by rw [hls.out, List.length_map]; exact zg
  go_wp2_with fail
  refine (endsOf_any o3.rd (lens_bounds hls.out) (by omega)).mono ?_
  rintro e w4 ⟨A4, c4, en, hen, rfl, o4, l4⟩
  have hpl : en = places 0 g := by rw [hen.out, hls.out]; rfl
  have HPL := Lib.hid hpl
  have ze : en.length = g.length + 1 := by rw [hpl, places_length]
  have zb : b.length ≤ 4194304 := by rw [hb.out]; have := (encs_len g).2; omega
  have by_ : Bytes b := by rw [hb.out]; exact encs_bytes g
  have BY := Lib.hid by_
  have t1 : ((en.length : Int) != (g.length : Int) + 1) = false := by simp only [bne_eq_false_iff_eq]; omega
  have ZE := Lib.hid ze
  clear hpl by_ ze
  go_wp2_with fail
  refine (startEach_any (o2.next (bnext l3 l4)).rd BY.out (by omega)).mono ?_
  rintro e w5 ⟨A5, c5, st, hst, rfl, o5, l5⟩
  have zs : st.length = b.length := by rw [hst.out, List.length_map]
  have t2 : ((st.length : Int) != (b.length : Int)) = false := by simp only [bne_eq_false_iff_eq]; omega
  have hlast : en[g.length]? = some ((b.length : Int)) := by rw [HPL.out, places_last 0 GG.out, hb.out]; simp
  obtain ⟨be, offe, ye, hAe, hbe, hye, hce⟩ := ((o4.next l5).rd).at_ (i := en.length - 1) (by rw [ZE.out]; omega)
  subst hAe
  have hye2 : ye = (b.length : Int) := by
    rw [show en.length - 1 = g.length by rw [ZE.out]; omega, hlast] at hye
    injection hye with hye; exact hye.symm
  subst hye2
  have ie : (1 : Int) ≤ (en.length : Int) := by rw [ZE.out]; omega
  have ie2 : en.length ≤ 1048577 := by rw [ZE.out]; omega
  have ie3 : 1 ≤ en.length := by rw [ZE.out]; omega
  have t3 : ((b.length : Int) != (b.length : Int)) = false := by simp
  have re := (o4.next l5).rd
  have rs := o5.rd
  have l05 := bnext (bnext (bnext l1 l2) (bnext l3 l4)) l5
  have ZS := Lib.hid zs
  have zst : st.length ≤ 4194304 := by omega
  clear o1 o2 o3 o4 o5 l1 l2 l3 l4 l5 hye hlast zs
  go_wp2
  go_loopw [42] (fun i wr => ∃ k : Nat, k ≤ st.length ∧ i = .int .i64 k ∧ Below w5.heap.size w5 wr) (fun i _ => st.length - (intOf i).toNat)
  case atStart => exact ⟨0, Nat.zero_le _, rfl, Below.refl _ _⟩
  case round =>
    obtain ⟨k, hk, rfl, hbel⟩ := hrel
    by_cases hlt : k < st.length
    · obtain ⟨b1, off1, y, hA1, hb1, hy, hc1⟩ := (rs.next hbel).at_ hlt
      subst hA1
      obtain ⟨x, hxk⟩ : ∃ x, b[k]? = some x := ⟨b[k]'(by rw [← ZS.out]; exact hlt), List.getElem?_eq_getElem _⟩
      have hyx : y = !isC x := by
        rw [hst.out, List.getElem?_map, hxk] at hy
        simp only [Option.map_some, Option.some.injEq] at hy; exact hy.symm
      have hmem : decide ((k : Int) ∈ en) = !isC x := by
        have h1 := mem_places 0 GG.out k x (by rw [← hb.out]; exact hxk)
        rw [← HPL.out] at h1
        simp only [Int.zero_add] at h1
        cases hcx : isC x
        · rw [hcx] at h1; simp [h1]
        · rw [hcx] at h1; simp [h1]
      subst hyx
      have HM := Lib.hid hmem
      have h1 : (k : Int) < (st.length : Int) := by omega
      clear hmem hy hxk
      generalize (!isC x) = q at *
      have hqq : (q != q) = false := by simp
      go_wp2_with (go_at_call 31; refine (isEnd_any (re.next hbel) _ (by have := ZE.out; omega)).mono ?_; rw [HM.out]; rintro e w' ⟨rfl, rfl⟩)
      go_roundw
      case rel => exact ⟨k + 1, by omega, by go_num, hbel⟩
      case measure => simp [intOf]; omega
    · have h1 : ¬ (k : Int) < (st.length : Int) := by omega
      go_wp2
      go_ret
      exact ⟨rfl, bnext l05 hbel⟩
end Go.Proofs.Ytmpaccpkanlpiaa
