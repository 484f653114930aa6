/- FnCountsOfCuts: the walk. -/
import Derived.Test.YtlbdhfpakajdaaaCounts
import Derived.Test.YtlbdhfpakajdaaaWGoods
import Derived.Test.YtlbdhfpakajdaaaStep2
import Derived.Test.YtlbdhfpakajdaaaQuiet
set_option linter.unusedVariables false
namespace Go.Proofs.Ytlbdhfpakajdaaa
open Go.RowKit P

theorem range_map_snoc {α : Type} (f : Nat → α) (k : Nat) : (List.range (k + 1)).map f = (List.range k).map f ++ [f k] := by rw [List.range_succ, List.map_append]; rfl
theorem range_map_at {α : Type} {f : Nat → α} {n k : Nat} {y : α} (h : ((List.range n).map f)[k]? = some y) : y = f k := by
  rw [List.getElem?_map] at h
  obtain ⟨i, hi, hy⟩ := Option.map_eq_some_iff.1 h
  obtain ⟨hil, hii⟩ := List.getElem?_eq_some_iff.1 hi
  simp only [List.getElem_range] at hii
  rw [← hy, hii]

set_option maxRecDepth 100000 in
set_option maxHeartbeats 8000000 in
theorem countsOfCuts_walk {A : Option Addr} {xs : List Int} {c : Nat} {w : World} (hx : Rd w .i32 A xs) (hi : I32 xs) (hl : xs.length ≤ 1048576) :
    Calls Try.prog 4 #[.slice A xs.length c] w fun e w' => e = .returned (.bool true) ∧ Below w.heap.size w w' := by
  obtain ⟨j8, hj8, _, hs8, _⟩ := info_parts info_u8
  have J8 := Lib.hid (And.intro hj8 hs8)
  clear hj8 hs8
  go_enter Try.func4, Try.ntmps4
  go_wp2_with fail
  refine (goodOnes_any hx (by omega)).mono ?_
  rintro e w1 ⟨A1, c1, g, hg, rfl, o1, l1⟩
  have zg : g.length ≤ 1048576 := by rw [hg.out]; have := filter_le xs; omega
  have ig := hi.good hg.out
  have gg : ∀ r ∈ g, good r = true := by rw [hg.out]; exact good_filter xs
  have GG := Lib.hid gg
  clear gg hx
  go_wp2_with fail
  refine (appendNil_any o1.rd ig (by omega)).mono ?_
  rintro e w2 ⟨A2, c2, b, hb, rfl, o2, l2⟩
  go_wp2_with fail
  refine (byteLens_any (o1.next l2).rd (by omega)).mono ?_
  rintro e w3 ⟨A3, c3, ls, hls, rfl, o3, l3⟩
  have zl : ls.length ≤ 1048576 := by rw [hls.out, List.length_map]; exact zg
  go_wp2_with fail
  refine (endsOf_any o3.rd (lens_bounds hls.out) (by omega)).mono ?_
  rintro e w4 ⟨A4, c4, en, hen, rfl, o4, l4⟩
  have hpl : en = places 0 g := by rw [hen.out, hls.out]; rfl
  have HPL := Lib.hid hpl
  have ze : en.length = g.length + 1 := by rw [hpl, places_length]
  have zb : b.length ≤ 4194304 := by rw [hb.out]; have := (encs_len g).2; omega
  have t1 : ((en.length : Int) != (g.length : Int) + 1) = false := by simp only [bne_eq_false_iff_eq]; omega
  have ie2 : en.length ≤ 1048577 := by omega
  have ZE := Lib.hid ze
  have HEN : Hid (∀ (m : Nat) (y : Int), en[m]? = some y → y = (L g m : Int)) := fun m y hy => by
    rw [HPL.out] at hy
    have hm : m < g.length + 1 := by have := (List.getElem?_eq_some_iff.1 hy).1; rwa [places_length] at this
    rw [places_at 0 GG.out m (by omega)] at hy
    injection hy with hy; omega
  have BY : Hid (Bytes b) := by show Bytes b; rw [hb.out]; exact encs_bytes g
  have l24 := bnext l3 l4
  have rb := (o2.next l24).rd
  have kb := o2.len.2
  have ren := o4.rd
  have l04 := bnext (bnext l1 l2) l24
  have HB : Hid (b = encs g) := hb
  clear o1 o2 o3 o4 l1 l2 l3 l4 l24 hpl ze hls hen hb hg ig zl
  go_wp2
  go_loopw [6, 7, 38] (fun v6 v7 v38 wr => ∃ (k : Nat) (A6 : Option Addr) (c6 : Nat) (hs : List Value) (A7 : Option Addr) (c7 : Nat) (ts : List Value), k ≤ b.length + 1 ∧ hs.length ≤ k ∧ ts.length ≤ k ∧ v38 = .int .i64 k ∧ v6 = .slice A6 hs.length c6 ∧ v7 = .slice A7 ts.length c7 ∧
      OwnV wr w4.heap.size 26 (.slice A6 hs.length c6) hs ∧ OwnV wr w4.heap.size 26 (.slice A7 ts.length c7) ts ∧ Sep (.slice A7 ts.length c7) (.slice A6 hs.length c6) ∧ PcsO wr w4.heap.size hs ((List.range k).map fun i => b.take i) ∧ PcsO wr w4.heap.size ts ((List.range k).map fun i => b.drop i) ∧ Below w4.heap.size w4 wr)
    (fun _ _ v38 _ => b.length + 1 - (intOf v38).toNat)
  case atStart =>
    have hb0 : Below w4.heap.size w4 (w4.alloc (.cells #[] 26)) := (Below.refl _ _).alloc (Nat.le_refl _) _
    have q5 := (OwnV.empty (w4.alloc (.cells #[] 26)) 26).lower hb0.size
    have hz : (w4.alloc (.cells #[] 26)).heap.size = w4.heap.size + 1 := by simp
    rw [hz] at q5
    refine ⟨0, _, 0, [], _, 0, [], Nat.zero_le _, Nat.le_refl _, Nat.le_refl _, rfl, rfl, rfl, (OwnV.empty w4 _).alloc _, q5, ?_, PcsO.nil _ _, PcsO.nil _ _, hb0.alloc hb0.size _⟩
    intro g' hg' hu
    simp only [Value.ownBlock, Option.some.injEq] at hg' hu
    omega
  case round =>
    obtain ⟨k, A6, c6, hs, A7, c7, ts, hk, zh, zt, rfl, rfl, rfl, oh, ot, sp, ph, pt, hbel⟩ := hrel
    have hsz := hbel.size
    by_cases hlt : k < b.length + 1
    · have h1 : (k : Int) < (b.length : Int) + 1 := by omega
      have hq1 : (hs.length + 1) * 24 ≤ 140737488355328 := by omega
      have hq2 : hs.length + 1 ≤ maxLen := by unfold maxLen; omega
      have hq3 : (ts.length + 1) * 24 ≤ 140737488355328 := by omega
      have hq4 : ts.length + 1 ≤ maxLen := by unfold maxLen; omega
      have k1 := fun W => run_cut_h (P := Try.prog) (w := W) 26 5 Try.underlying26 j8 J8.out.1 A2 b.length c2 k (k : Int) rfl (by omega)
      have k2 := fun W => run_cut_l (P := Try.prog) (w := W) 26 5 Try.underlying26 j8 J8.out.1 J8.out.2 A2 b.length c2 k (k : Int) rfl (by omega)
      have rpt := (rb.next hbel).take k
      have zpt : (b.take k).length = k := by rw [List.length_take]; omega
      have ZPT := Lib.hid zpt
      have zpt2 : (b.take k).length ≤ 140737488355328 := by rw [zpt]; omega
      have ZDT : Hid ((b.drop k).length = b.length - k) := List.length_drop
      have zdt2 : (b.drop k).length ≤ 140737488355328 := by rw [ZDT.out]; omega
      clear zpt
      go_wp2_with fail
      refine (copied_q rpt ZPT.out zpt2).mono ?_
      rintro e w5 ⟨A5, c5, p5, hp5, rfl, o5, l5⟩
      have oh1 := oh.next l5
      have hs1 := Nat.le_trans hsz l5.size
      go_wp2_with (at_builtin; refine wpList_app1v w5 rfl _ _ 24 rfl w4.heap.size 26 Try.underlying24 info_bytes (.slice A5 p5.length c5) rfl oh1 rfl rfl hq1 hq2 hs1 ?_; intro A8 c8 hs1' w7 he1 oh2 hg2)
      have b7 := hg2.below_newV oh1 hs1
      have hs7 := Nat.le_trans hs1 b7.size
      have ot1 := (ot.next l5).alloc (.cells #[.slice A5 p5.length c5] 26)
      have ot2 := hg2.own ot1 sp
      have sp2 := hg2.sep ot1 sp
      have ph2 := (((ph.next l5).snoc (o5.lower hsz)).alloc (.cells #[.slice A5 p5.length c5] 26)).grow hg2 (oh1.alloc _)
      have pt2 := ((pt.next l5).alloc (.cells #[.slice A5 p5.length c5] 26)).grow hg2 (oh1.alloc _)
      rw [← he1.out, hp5.out, ← range_map_snoc] at ph2
      have l47 := (bnext hbel l5).trans b7
      have zh2 : hs1'.length ≤ k + 1 := by rw [he1.out, List.length_append]; simp; omega
      have rdt := (rb.next l47).drop c2 k kb
      clear oh oh1 ot ot1 ph pt sp o5 hg2 l5 rpt hbel b7 hs1 hsz
      refine (copied_q rdt ZDT.out zdt2).mono ?_
      rintro e w8 ⟨A9, c9, p9, hp9, rfl, o9, l9⟩
      have ot3 := ot2.next l9
      have hs8 := Nat.le_trans hs7 l9.size
      go_wp2_with (at_builtin; refine wpList_app1v w8 rfl _ _ 24 rfl w4.heap.size 26 Try.underlying24 info_bytes (.slice A9 p9.length c9) rfl ot3 rfl rfl hq3 hq4 hs8 ?_; intro A10 c10 ts1 w10 he2 ot4 hg4)
      have b10 := hg4.below_newV ot3 hs8
      have oh3 := (oh2.next l9).alloc (.cells #[.slice A9 p9.length c9] 26)
      have oh4 := hg4.own oh3 sp2.symm
      have sp4 := (hg4.sep oh3 sp2.symm).symm
      have pt4 := (((pt2.next l9).snoc (o9.lower hs7)).alloc (.cells #[.slice A9 p9.length c9] 26)).grow hg4 (ot3.alloc _)
      have ph4 := ((ph2.next l9).alloc (.cells #[.slice A9 p9.length c9] 26)).grow hg4 (ot3.alloc _)
      rw [← he2.out, hp9.out, ← range_map_snoc] at pt4
      have hfin := (bnext l47 l9).trans b10
      have zt2 : ts1.length ≤ k + 1 := by rw [he2.out, List.length_append]; simp; omega
      clear oh2 oh3 ot2 ot3 ph2 pt2 sp2 o9 hg4 l9 rdt l47 b10 hs7 hs8 k1 k2
      go_roundw
      case rel => exact ⟨k + 1, A8, c8, hs1', A10, c10, ts1, by omega, zh2, zt2, by go_num, rfl, rfl, oh4, ot4, sp4, ph4, pt4, hfin⟩
      case measure => simp [intOf]; omega
    · have h1 : ¬ (k : Int) < (b.length : Int) + 1 := by omega
      have hke : k = b.length + 1 := by omega
      have ZH : Hid (hs.length = b.length + 1) := by show _ = _; rw [ph.1, List.length_map, List.length_range, hke]
      have ZT : Hid (ts.length = b.length + 1) := by show _ = _; rw [pt.1, List.length_map, List.length_range, hke]
      have zh2 : hs.length ≤ 16777216 := by omega
      have zt2 : ts.length ≤ 16777216 := by omega
      have hB1 : ∀ m ∈ (List.range k).map (fun i => b.take i), Bytes m ∧ m.length ≤ 16777216 := fun m hm => by
        obtain ⟨i, _, rfl⟩ := List.mem_map.1 hm
        exact ⟨BY.out.take _, by rw [List.length_take]; omega⟩
      have hB2 : ∀ m ∈ (List.range k).map (fun i => b.drop i), Bytes m ∧ m.length ≤ 16777216 := fun m hm => by
        obtain ⟨i, _, rfl⟩ := List.mem_map.1 hm
        exact ⟨BY.out.drop _, by rw [List.length_drop]; omega⟩
      have HK := Lib.hid hke
      clear hke
      go_wp2_with fail
      refine (countEach_any oh.rdv ph hB1 zh2).mono ?_
      rintro e w5 ⟨A5, c5, f1, hf1, rfl, o5, l5⟩
      go_wp2_with fail
      refine (countEach_any (ot.next l5).rdv (pt.next l5) hB2 zt2).mono ?_
      rintro e w6 ⟨A8, c8, f2, hf2, rfl, o6, l6⟩
      have Z1 : Hid (f1.length = b.length + 1) := by show _ = _; rw [hf1.out, List.length_map, List.length_map, List.length_range, HK.out]
      have Z2 : Hid (f2.length = b.length + 1) := by show _ = _; rw [hf2.out, List.length_map, List.length_map, List.length_range, HK.out]
      have t2 : ((f1.length : Int) != (hs.length : Int)) = false := by simp only [bne_eq_false_iff_eq]; rw [Z1.out, ZH.out]
      have t3 : ((f2.length : Int) != (ts.length : Int)) = false := by simp only [bne_eq_false_iff_eq]; rw [Z2.out, ZT.out]
      have HF1 : Hid (∀ (m : Nat) (y : Int), f1[m]? = some y → y = ((decs (b.take m)).length : Int)) := fun m y hy => by
        rw [hf1.out, List.map_map] at hy; exact range_map_at (f := (fun l => ((decs l).length : Int)) ∘ fun i => b.take i) hy
      have HF2 : Hid (∀ (m : Nat) (y : Int), f2[m]? = some y → y = ((decs (b.drop m)).length : Int)) := fun m y hy => by
        rw [hf2.out, List.map_map] at hy; exact range_map_at (f := (fun l => ((decs l).length : Int)) ∘ fun i => b.drop i) hy
      have r1 := (o5.next l6).rd
      have r2 := o6.rd
      have l46 := bnext hbel (bnext l5 l6)
      have ren6 := ren.next l46
      have lw6 := bnext l04 l46
      clear o5 o6 oh ot sp ph pt l5 l6 hbel hB1 hB2 hf1 hf2 ren rb l46 l04
      go_wp2
      go_loopw [74] (fun v74 wr => ∃ k : Nat, k ≤ b.length + 1 ∧ v74 = .int .i64 k ∧ Below w6.heap.size w6 wr) (fun v74 _ => b.length + 1 - (intOf v74).toNat)
      case atStart => exact ⟨0, Nat.zero_le _, rfl, Below.refl _ _⟩
      case round =>
        obtain ⟨k, hk, rfl, hbel⟩ := hrel
        by_cases hlt2 : k < b.length + 1
        · have h2 : (k : Int) < (hs.length : Int) := by rw [ZH.out]; omega
          obtain ⟨i, j, p1, p2, p3, p4, p5, p6, p7, p8, p9, p10⟩ := cut_counts GG.out HB.out (by omega : k ≤ b.length)
          have P3 := Lib.hid p3
          have P4 := Lib.hid p4
          have P8 := Lib.hid p8
          have P9 := Lib.hid p9
          clear p3 p4 p8 p9
          go_wp2
          go_loopw [12, 13, 81] (fun v12 v13 v81 wr => ∃ (m bf la : Nat), m ≤ en.length ∧ bf ≤ g.length ∧ la ≤ b.length ∧ v12 = .int .i64 bf ∧ v13 = .int .i64 la ∧ v81 = .int .i64 m ∧ Hid (bf = min (m - 1) i) ∧ Hid (la = L g bf) ∧ Below w6.heap.size w6 wr) (fun _ _ v81 _ => en.length - (intOf v81).toNat)
          case atStart => exact ⟨0, 0, 0, Nat.zero_le _, Nat.zero_le _, Nat.zero_le _, rfl, rfl, rfl, (by show _ = _; omega), (by show _ = _; simp [L, encs_nil]), hbel⟩
          case round =>
            obtain ⟨m, bf, la, hm, zbf, zla, rfl, rfl, rfl, hBF, hLA, hbel2⟩ := hrel
            by_cases hlt3 : m < en.length
            · obtain ⟨b1, off1, y, hA1, hb1, hy, hc1⟩ := (ren6.next hbel2).at_ hlt3
              have hyL := HEN.out m y hy
              subst hA1 hyL
              have hmn : m ≤ g.length := by have := ZE.out; omega
              have hpm := P3.out m hmn
              have h3 : (m : Int) < (en.length : Int) := by omega
              clear hy
              by_cases hmi : m ≤ i
              · have h4 : (L g m : Int) ≤ (k : Int) := by have := hpm.2 hmi; omega
                have HBF : Hid (m = min (m + 1 - 1) i) := by show _ = _; omega
                have zL : L g m ≤ b.length := by have := hpm.2 hmi; omega
                clear hpm hBF hLA
                generalize hLm : L g m = lm at *
                have HLm : Hid (lm = L g m) := hLm.symm
                clear hLm
                go_wp2
                go_roundw
                case rel => exact ⟨m + 1, m, lm, by omega, by omega, zL, by go_num, by go_num, by go_num, HBF, HLm, hbel2⟩
                case measure => simp [intOf]; omega
              · have h4 : ¬ (L g m : Int) ≤ (k : Int) := fun h => hmi (hpm.1 (by omega))
                have HBF : Hid (bf = min (m + 1 - 1) i) := by have := hBF.out; show _ = _; omega
                clear hpm hBF
                go_wp2
                go_roundw
                case rel => exact ⟨m + 1, bf, la, by omega, by omega, by omega, by go_num, by go_num, by go_num, HBF, hLA, hbel2⟩
                case measure => simp [intOf]; omega
            · have h3 : ¬ (m : Int) < (en.length : Int) := by omega
              have hbi : bf = i := by have := hBF.out; have := ZE.out; omega
              subst hbi
              clear hBF hlt3
              go_wp2
              go_loopw [14, 94] (fun v14 v94 wr => ∃ (q nx : Nat), q ≤ en.length ∧ nx ≤ b.length ∧ v14 = .int .i64 nx ∧ v94 = .int .i64 q ∧ Hid (nx = if q ≤ j then b.length else L g j) ∧ Below w6.heap.size w6 wr) (fun _ v94 _ => en.length - (intOf v94).toNat)
              case atStart => exact ⟨0, b.length, Nat.zero_le _, Nat.le_refl _, rfl, rfl, (by show _ = _; rw [if_pos (Nat.zero_le _)]), hbel2⟩
              case round =>
                obtain ⟨q, nx, hq, znx, rfl, rfl, hNX, hbel3⟩ := hrel
                by_cases hlt4 : q < en.length
                · obtain ⟨b1, off1, y, hA1, hb1, hy, hc1⟩ := (ren6.next hbel3).at_ hlt4
                  have hyL := HEN.out q y hy
                  subst hA1 hyL
                  have hqn : q ≤ g.length := by have := ZE.out; omega
                  have hpq := P4.out q hqn
                  have h4 : (q : Int) < (en.length : Int) := by omega
                  clear hy
                  by_cases hjq : j ≤ q
                  · have h5 : (k : Int) ≤ (L g q : Int) := by have := hpq.2 hjq; omega
                    have hmo := L_mono g q j hjq
                    have hmin : min (nx : Int) (L g q : Int) = (L g j : Int) := by
                      have h6 := hNX.out
                      by_cases e : q ≤ j
                      · rw [if_pos e] at h6
                        rw [show q = j by omega]; omega
                      · rw [if_neg e] at h6; omega
                    clear hpq hNX
                    generalize hlq : L g q = lq at *
                    generalize hlj : L g j = lj at *
                    clear hlq
                    have HLJ := Lib.hid hlj
                    clear hlj
                    go_wp2
                    go_roundw
                    case rel => exact ⟨q + 1, lj, by omega, by omega, by go_num, by go_num, (by show _ = _; rw [if_neg (by omega)]), hbel3⟩
                    case measure => simp [intOf]; omega
                  · have h5 : ¬ (k : Int) ≤ (L g q : Int) := fun h => hjq (hpq.1 (by omega))
                    have HNX : Hid (nx = if q + 1 ≤ j then b.length else L g j) := by
                      have h6 := hNX.out
                      rw [if_pos (by omega)] at h6
                      show _ = _
                      rw [if_pos (by omega)]; exact h6
                    clear hpq hNX
                    go_wp2
                    go_roundw
                    case rel => exact ⟨q + 1, nx, by omega, by omega, by go_num, by go_num, HNX, hbel3⟩
                    case measure => simp [intOf]; omega
                · have h4 : ¬ (q : Int) < (en.length : Int) := by omega
                  have hnj : nx = L g j := by
                    have h6 := hNX.out
                    rw [if_neg (by have := ZE.out; omega)] at h6; exact h6
                  obtain ⟨b1, off1, y1, hA1, hb1, hy1, hc1⟩ := (r1.next hbel3).at_ (i := k) (by rw [Z1.out]; omega)
                  obtain ⟨b2, off2, y2, hA2, hb2, hy2, hc2⟩ := (r2.next hbel3).at_ (i := k) (by rw [Z2.out]; omega)
                  have e1 := HF1.out k y1 hy1
                  have e2 := HF2.out k y2 hy2
                  rw [P8.out] at e1
                  rw [P9.out] at e2
                  rw [← hLA.out] at e1 p5
                  rw [← hnj] at e2 p6 p7 p10
                  have h5 : (k : Int) < (f1.length : Int) := by rw [Z1.out]; omega
                  have h6 : (k : Int) < (f2.length : Int) := by rw [Z2.out]; omega
                  have h7 : (0 : Int) ≤ (k : Int) := by omega
                  have u1 : (y1 != (bf : Int) + (k : Int) - (la : Int)) = false := by simp only [bne_eq_false_iff_eq]; omega
                  subst hA1 hA2
                  rcases p10 with ⟨g1, g2⟩ | ⟨g1, g2⟩
                  · have g3 : (k : Int) < (nx : Int) := by omega
                    have u2 : (y2 != (g.length : Int) - (bf : Int) - 1 + (nx : Int) - (k : Int)) = false := by simp only [bne_eq_false_iff_eq]; omega
                    clear hy1 hy2 e1 e2 hnj hNX g1 g2 P8 P9
                    go_wp2
                    go_roundw
                    case rel =>
                      first
                        | exact ⟨k + 1, by omega, by go_num, hbel3⟩
                        | ((repeat apply Exists.intro (α := Value)); refine ⟨?_, rfl⟩; exact ⟨k + 1, by omega, by go_num, hbel3⟩)
                    case measure => simp [intOf]; omega
                  · have g3 : ¬ (k : Int) < (nx : Int) := by omega
                    have u2 : (y2 != (g.length : Int) - (bf : Int) + (nx : Int) - (k : Int)) = false := by simp only [bne_eq_false_iff_eq]; omega
                    clear hy1 hy2 e1 e2 hnj hNX g1 g2 P8 P9
                    go_wp2
                    go_roundw
                    case rel =>
                      first
                        | exact ⟨k + 1, by omega, by go_num, hbel3⟩
                        | ((repeat apply Exists.intro (α := Value)); refine ⟨?_, rfl⟩; exact ⟨k + 1, by omega, by go_num, hbel3⟩)
                    case measure => simp [intOf]; omega
        · have h2 : ¬ (k : Int) < (hs.length : Int) := by rw [ZH.out]; omega
          go_wp2
          go_ret
          exact ⟨rfl, bnext lw6 hbel⟩
end Go.Proofs.Ytlbdhfpakajdaaa
