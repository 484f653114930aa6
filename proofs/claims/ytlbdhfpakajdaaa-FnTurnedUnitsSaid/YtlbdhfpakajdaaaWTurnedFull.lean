/- FnTurnedUnits: the walk, for every size. -/
import Derived.Test.YtlbdhfpakajdaaaPlainTurned
import Derived.Test.YtlbdhfpakajdaaaUnitsW
import Derived.Test.YtlbdhfpakajdaaaWGoods
import Derived.Test.YtlbdhfpakajdaaaStep2
set_option linter.unusedVariables false
namespace Go.Proofs.Ytlbdhfpakajdaaa
open Go.RowKit P

def bigAt (g : List Int) (k : Nat) : Bool := decide (65536 ≤ g.getD k 0)
theorem bigAt_small {g : List Int} {k : Nat} {x : Int} (h : g[k]? = some x) (hx : x < 65536) : bigAt g k = false := by unfold bigAt; simp [h]; omega
theorem bigAt_big {g : List Int} {k : Nat} {x : Int} (h : g[k]? = some x) (hx : 65536 ≤ x) : bigAt g k = true := by unfold bigAt; simp [h]; omega
theorem bigAt_past {g : List Int} {k : Nat} (h : g.length ≤ k) : bigAt g k = false := by unfold bigAt; simp [List.getElem?_eq_none h]
theorem bigAt_end {g : List Int} : bigAt g g.length = false := bigAt_past (Nat.le_refl _)
theorem Rd.cell {w : World} {k : IntKind} {b off : Nat} {xs : List Int} (h : Rd w k (some ⟨b, off, none⟩) xs) {i : Nat} {x : Int} (hx : xs[i]? = some x) : w.cell? ⟨b, off + i, none⟩ = some (.int k x) := by
  obtain ⟨b', off', e, _, hc⟩ := h (by have := (List.getElem?_eq_some_iff.1 hx).1; omega)
  injection e with e; injection e with e1 e2; subst e1 e2
  exact hc i x hx
theorem turnT_len : ∀ (l : List Int), 2 * (turnT false l).length ≤ 3 * l.length + 1 ∧ 2 * (turnT true l).length ≤ 3 * l.length
  | [] => by simp [turnT]
  | r :: t => by
    obtain ⟨h1, h2⟩ := turnT_len t
    have h3 : (second r t).length = 1 := by
      cases t with
      | nil => rfl
      | cons s t => show (if 65536 ≤ s then [_] else [_] : List Int).length = 1; split <;> rfl
    by_cases h : r < 65536
    · have e : ∀ pb, turnT pb (r :: t) = r :: turnT false t := fun pb => by show (if r < 65536 then _ else _) = _; rw [if_pos h]
      rw [e, e]
      simp only [List.length_cons]
      omega
    · have e1 : turnT false (r :: t) = [65533] ++ second r t ++ turnT true t := by show (if r < 65536 then _ else _) = _; rw [if_neg h]; rfl
      have e2 : turnT true (r :: t) = [] ++ second r t ++ turnT true t := by show (if r < 65536 then _ else _) = _; rw [if_neg h]; rfl
      rw [e1, e2]
      simp only [List.length_append, List.length_cons, List.length_nil, h3]
      omega

set_option maxRecDepth 100000 in
set_option maxHeartbeats 8000000 in
theorem turnedUnits_walk {A : Option Addr} {xs : List Int} {c : Nat} {w : World} (hx : Rd w .i32 A xs) (hi : I32 xs) (hl : xs.length ≤ 35184372087808) :
    Calls Try.prog 5 #[.slice A xs.length c] w fun e w' => e = .returned (.bool true) ∧ Below w.heap.size w w' := by
  go_enter Try.func5, Try.ntmps5
  go_wp2_with fail
  refine (goods_any hx (by omega)).mono ?_
  rintro e w1 ⟨A1, c1, g, hg, rfl, o1, l1⟩
  have zg : g.length ≤ 35184372087808 := by rw [hg.out]; have := filter_le xs; omega
  have ig := hi.good hg.out
  have gg : ∀ r ∈ g, good r = true := by rw [hg.out]; exact good_filter xs
  have GG := Lib.hid gg
  clear gg hx hg
  go_wp2_with fail
  refine (encodeUnits_any o1.rd ig (by omega)).mono ?_
  rintro e w2 ⟨A2, c2, us, hus, rfl, o2, l2⟩
  have zu : us.length ≤ 70368744175616 := by rw [hus.out]; have := (encs16_len g).2; omega
  have HU : Hid (us = encs16 g) := hus
  have WU : Hid (Units us) := by show Units us; rw [hus.out]; exact encs16_units g
  have rg := (o1.next l2).rd
  have ru := o2.rd
  have l02 := bnext l1 l2
  clear o1 o2 l1 l2 hus
  go_wp2
  go_loopw [5, 6] (fun v5 v6 wr => ∃ (k : Nat) (A5 : Option Addr) (c5 : Nat) (ts : List Int), k ≤ us.length ∧ ts.length + k ≤ us.length ∧ v6 = .int .i64 ((k : Int) - 1) ∧ Hid (ts ++ (us.take k).reverse = us.reverse) ∧ v5 = .slice A5 ts.length c5 ∧ Own wr w2.heap.size 37 .u16 (.slice A5 ts.length c5) ts ∧ Below w2.heap.size w2 wr)
    (fun _ v6 _ => (intOf v6 + 1).toNat)
  case atStart => exact ⟨us.length, none, 0, [], Nat.le_refl _, by simp, by go_num, (by show _ = _; rw [List.take_length]; rfl), rfl, Own.nil _ _ _ _, Below.refl _ _⟩
  case round =>
    obtain ⟨k, A5, c5, ts, hk, zt, rfl, hts, rfl, hown, hbel⟩ := hrel
    have hsz := hbel.size
    by_cases hk0 : 0 < k
    · obtain ⟨k', rfl⟩ : ∃ k', k = k' + 1 := ⟨k - 1, by omega⟩
      obtain ⟨b1, off1, x, hA1, hb1, hx, hc1⟩ := (ru.next hbel).at_ (i := k') (by omega)
      subst hA1
      have HR := Lib.hid (rev_snoc hx)
      have e1 : ((k' + 1 : Nat) : Int) - 1 = (k' : Int) := by omega
      rw [e1]
      have h1 : (0 : Int) ≤ (k' : Int) := by omega
      have h2 : (k' : Int) < (us.length : Int) := by omega
      clear hx e1 hk0
      go_wp2_with (at_builtin; refine wpList_app1 _ rfl _ _ 35 rfl w2.heap.size 37 .u16 2 Try.underlying35 info_u16 x hown rfl rfl (by omega) (by unfold maxLen; omega) hsz ?_; intro A6 c6 ts1 w6 he1 hown1 hg1)
      have hb6 := hg1.below_new hown hsz
      have zt1 : ts1.length + k' ≤ us.length := by rw [he1.out, List.length_append]; simp; omega
      clear hown hg1
      go_roundw
      case rel =>
        refine ⟨k', A6, c6, ts1, by omega, zt1, by go_num, ?_, rfl, hown1, hbel.trans hb6⟩
        show _ = _
        rw [he1.out, ← hts.out, HR.out]; simp
      case measure => simp [intOf]
    · have hk1 : k = 0 := by omega
      subst hk1
      have HT0 : Hid (ts = us.reverse) := by show _ = _; rw [← hts.out]; simp
      have rt := hown.rd
      have lw2 := bnext l02 hbel
      have rg2 := rg.next hbel
      have zt2 : ts.length ≤ 70368744175616 := by omega
      have WT : Hid (Units ts) := fun x hx => by rw [HT0.out] at hx; exact WU.out x (List.mem_reverse.1 hx)
      clear hts hown hk0 hk zt rg l02 hbel ru
      generalize wr = w3 at *
      go_wp2
      go_loopw [7, 8] (fun v7 v8 wr => ∃ (k : Nat) (A7 : Option Addr) (c7 : Nat) (ds : List Int), k ≤ g.length ∧ v8 = .int .i64 ((k : Int) - 1) ∧ Hid (ds ++ turnT (bigAt g k) (g.take k).reverse = turnT false g.reverse) ∧ v7 = .slice A7 ds.length c7 ∧ Own wr w3.heap.size 21 .i32 (.slice A7 ds.length c7) ds ∧ Below w3.heap.size w3 wr)
        (fun _ v8 _ => (intOf v8 + 1).toNat)
      case atStart => exact ⟨g.length, none, 0, [], Nat.le_refl _, by go_num, (by show _ = _; rw [List.take_length, bigAt_end]; rfl), rfl, Own.nil _ _ _ _, Below.refl _ _⟩
      case round =>
        obtain ⟨k, A7, c7, ds, hk, rfl, hds, rfl, hown, hbel⟩ := hrel
        have hsz := hbel.size
        have zds : ds.length ≤ 52776558131712 := by
          have h1 := congrArg List.length hds.out
          rw [List.length_append] at h1
          have := (turnT_len g.reverse).1
          rw [List.length_reverse] at this; omega
        by_cases hk0 : 0 < k
        · obtain ⟨i, rfl⟩ : ∃ i, k = i + 1 := ⟨k - 1, by omega⟩
          obtain ⟨b1, off1, x, hA1, hb1, hx, hc1⟩ := (rg2.next hbel).at_ (i := i) (by omega)
          subst hA1
          have e1 : ((i + 1 : Nat) : Int) - 1 = (i : Int) := by omega
          rw [e1]
          have h1 : (0 : Int) ≤ (i : Int) := by omega
          have h2 : (i : Int) < (g.length : Int) := by omega
          have hx32 := ig x (List.mem_of_getElem? hx)
          have hx0 := hx32.1
          have hx1 := hx32.2
          have hq1 : Fits (ds.length + 1) 4 := Fits.of (by omega)
          have hq2 : ds.length + 1 ≤ maxLen := by unfold maxLen; omega
          clear e1 hk0 hx32
          by_cases hsm : x < 65536
          · have HT := Lib.hid (turn_small (bigAt g (i + 1)) hx hsm)
            have HPB : Hid (bigAt g i = false) := bigAt_small hx hsm
            clear hx
            go_wp2_with (at_builtin; refine wpList_app1w _ rfl _ _ 22 rfl w3.heap.size 21 .i32 4 Try.underlying22 info_i32 x hown rfl rfl hq1 hq2 hsz ?_; intro A8 c8 d1 w8 he1 hown1 hg1)
            have hb8 := hg1.below_new hown hsz
            clear hown hg1
            go_roundw
            case rel =>
              (repeat apply Exists.intro (α := Value))
              first | refine ⟨?_, rfl⟩ | skip
              refine ⟨i, A8, c8, d1, by omega, by go_num, ?_, rfl, hown1, hbel.trans hb8⟩
              show _ = _
              rw [he1.out, ← hds.out, HT.out, HPB.out]; simp
            case measure => simp [intOf]
          · have HPB : Hid (bigAt g i = true) := bigAt_big hx (by omega)
            have HT := Lib.hid (turn_big (bigAt g (i + 1)) hx hsm)
            have RG := rg2.next hbel
            have HXS := Lib.hid hx
            have XM : x ≤ 1114111 := by have := good_iff.1 (GG.out x (List.mem_of_getElem? hx)); omega
            clear hx
            rcases (by omega : i = 0 ∨ 0 < i) with hi0 | hi0
            · have HSEC : Hid (second x (g.take i).reverse = [65533]) := by show _ = _; rw [hi0]; rfl
              have h7 : ¬ (0 : Int) < (i : Int) := by omega
              have HI0 := Lib.hid hi0
              clear hi0
              rcases (by omega : g.length ≤ i + 1 ∨ i + 1 < g.length) with hn | hn
              · have h4 : ((i : Int) == (g.length : Int) - 1) = true := by simp only [beq_iff_eq]; omega
                have HBA : Hid (bigAt g (i + 1) = false) := bigAt_past hn
                clear RG
                go_wp2_with (first
                  | (at_builtin; refine wpList_app1w wr rfl _ _ 22 rfl w3.heap.size 21 .i32 4 Try.underlying22 info_i32 65533 hown rfl rfl hq1 hq2 hsz ?_; intro A5 c5 d1 w5 he1 o5 g5; have zd1 : d1.length = ds.length + 1 := (by rw [he1.out, List.length_append]; rfl); have hq3 : Fits (d1.length + 1) 4 := (Fits.of (by rw [zd1]; omega)); have hq4 : d1.length + 1 ≤ maxLen := (by unfold maxLen; rw [zd1]; omega); clear zd1; have hs5 := Nat.le_trans hsz (g5.below_new hown hsz).size; have R5 := rg2.next (hbel.trans (g5.below_new hown hsz)); have cx5 := R5.cell HXS.out; clear R5)
                  | (at_builtin; refine wpList_app1w w5 rfl _ _ 22 rfl w3.heap.size 21 .i32 4 Try.underlying22 info_i32 65533 o5 rfl rfl hq3 hq4 hs5 ?_; intro A8 c8 d2 w8 he2 o8 g8))
                have hb8 := g8.below_new o5 hs5
                have hb5 := g5.below_new hown hsz
                have hfin := (hbel.trans hb5).trans hb8
                clear hown g8 g5 o5
                go_roundw
                case rel =>
                  (repeat apply Exists.intro (α := Value))
                  first | refine ⟨?_, rfl⟩ | skip
                  first
                    | refine ⟨i, A8, c8, d2, by omega, by go_num, ?_, rfl, o8, hfin⟩
                    | refine ⟨i, by omega, by omega, A8, c8, d2, ?_, ⟨rfl, rfl, rfl⟩, o8, hfin⟩
                    | refine ⟨i, by omega, by go_num, A8, c8, d2, ?_, ⟨rfl, rfl, rfl⟩, o8, hfin⟩
                    | refine ⟨i, by omega, by go_num, A8, c8, d2, ?_, rfl, o8, hfin⟩
                  show _ = _
                  rw [he2.out, he1.out, ← hds.out, HT.out, HSEC.out, HPB.out, HBA.out]; simp
                case measure => first | (simp [intOf]; done) | (simp [intOf]; omega)
              · have h4 : ((i : Int) == (g.length : Int) - 1) = false := by simp only [beq_eq_false_iff_ne, ne_eq]; omega
                obtain ⟨b3, off3, y, hA3, hb3, hy, hc3⟩ := RG.at_ (i := i + 1) hn
                injection hA3 with hA3; injection hA3 with e1 e2; subst e1 e2
                have h6 : (i : Int) + 1 < (g.length : Int) := by omega
                have h6' : (0 : Int) ≤ (i : Int) + 1 := by omega
                by_cases h5 : y < 65536
                · have HBA : Hid (bigAt g (i + 1) = false) := bigAt_small hy h5
                  clear RG hy
                  go_wp2_with (first
                    | (at_builtin; refine wpList_app1w wr rfl _ _ 22 rfl w3.heap.size 21 .i32 4 Try.underlying22 info_i32 65533 hown rfl rfl hq1 hq2 hsz ?_; intro A5 c5 d1 w5 he1 o5 g5; have zd1 : d1.length = ds.length + 1 := (by rw [he1.out, List.length_append]; rfl); have hq3 : Fits (d1.length + 1) 4 := (Fits.of (by rw [zd1]; omega)); have hq4 : d1.length + 1 ≤ maxLen := (by unfold maxLen; rw [zd1]; omega); clear zd1; have hs5 := Nat.le_trans hsz (g5.below_new hown hsz).size; have R5 := rg2.next (hbel.trans (g5.below_new hown hsz)); have cx5 := R5.cell HXS.out; clear R5)
                    | (at_builtin; refine wpList_app1w w5 rfl _ _ 22 rfl w3.heap.size 21 .i32 4 Try.underlying22 info_i32 65533 o5 rfl rfl hq3 hq4 hs5 ?_; intro A8 c8 d2 w8 he2 o8 g8))
                  have hb8 := g8.below_new o5 hs5
                  have hb5 := g5.below_new hown hsz
                  have hfin := (hbel.trans hb5).trans hb8
                  clear hown g8 g5 o5
                  go_roundw
                  case rel =>
                    (repeat apply Exists.intro (α := Value))
                    first | refine ⟨?_, rfl⟩ | skip
                    first
                      | refine ⟨i, A8, c8, d2, by omega, by go_num, ?_, rfl, o8, hfin⟩
                      | refine ⟨i, by omega, by omega, A8, c8, d2, ?_, ⟨rfl, rfl, rfl⟩, o8, hfin⟩
                      | refine ⟨i, by omega, by go_num, A8, c8, d2, ?_, ⟨rfl, rfl, rfl⟩, o8, hfin⟩
                      | refine ⟨i, by omega, by go_num, A8, c8, d2, ?_, rfl, o8, hfin⟩
                    show _ = _
                    rw [he2.out, he1.out, ← hds.out, HT.out, HSEC.out, HPB.out, HBA.out]; simp
                  case measure => first | (simp [intOf]; done) | (simp [intOf]; omega)
                · have HBA : Hid (bigAt g (i + 1) = true) := bigAt_big hy (by omega)
                  clear RG hy
                  go_wp2_with (at_builtin; refine wpList_app1w wr rfl _ _ 22 rfl w3.heap.size 21 .i32 4 Try.underlying22 info_i32 65533 hown rfl rfl hq1 hq2 hsz ?_; intro A8 c8 d2 w8 he2 o8 g8)
                  have hb8 := g8.below_new hown hsz
                  have hfin := hbel.trans hb8
                  clear hown g8
                  go_roundw
                  case rel =>
                    (repeat apply Exists.intro (α := Value))
                    first | refine ⟨?_, rfl⟩ | skip
                    first
                      | refine ⟨i, A8, c8, d2, by omega, by go_num, ?_, rfl, o8, hfin⟩
                      | refine ⟨i, by omega, by omega, A8, c8, d2, ?_, ⟨rfl, rfl, rfl⟩, o8, hfin⟩
                      | refine ⟨i, by omega, by go_num, A8, c8, d2, ?_, ⟨rfl, rfl, rfl⟩, o8, hfin⟩
                      | refine ⟨i, by omega, by go_num, A8, c8, d2, ?_, rfl, o8, hfin⟩
                    show _ = _
                    rw [he2.out, ← hds.out, HT.out, HSEC.out, HPB.out, HBA.out]; simp
                  case measure => first | (simp [intOf]; done) | (simp [intOf]; omega)
            · obtain ⟨j, rfl⟩ : ∃ j, i = j + 1 := ⟨i - 1, by omega⟩
              obtain ⟨b2, off2, z, hA2, hb2, hz, hc2⟩ := RG.at_ (i := j) (by omega)
              injection hA2 with hA2; injection hA2 with e1 e2; subst e1 e2
              have e3 : ((j + 1 : Nat) : Int) = (j : Int) + 1 := by omega
              rw [e3]
              have hz32 := ig z (List.mem_of_getElem? hz)
              have HZS := Lib.hid hz
              have h7 : (0 : Int) < (j : Int) + 1 := by omega
              have h8 : (j : Int) < (g.length : Int) := by omega
              have h8' : (j : Int) + 1 < (g.length : Int) := by omega
              have h9 : (0 : Int) ≤ (j : Int) := by omega
              have h9' : (0 : Int) ≤ (j : Int) + 1 := by omega
              clear e3 h1 h2 hi0
              by_cases hzb : 65536 ≤ z
              · have HSEC : Hid (second x (g.take (j + 1)).reverse = [x - x % 1024 + z % 1024]) := by show _ = _; rw [second_some x hz, if_pos hzb]
                have hz1 := hz32.2
                obtain ⟨p, e1, e2, hp0, hp1⟩ : ∃ p, x % 1024 = p ∧ x.tmod 1024 = p ∧ 0 ≤ p ∧ p < 1024 := ⟨x % 1024, rfl, Int.tmod_eq_emod_of_nonneg (by omega), by omega, by omega⟩
                obtain ⟨q, e4, e5, hq0, hq00⟩ : ∃ q, z % 1024 = q ∧ z.tmod 1024 = q ∧ 0 ≤ q ∧ q < 1024 := ⟨z % 1024, rfl, Int.tmod_eq_emod_of_nonneg (by omega), by omega, by omega⟩
                rw [e1, e4] at HSEC
                have hpx : p ≤ x := by omega
                have v1 : IntKind.i64.wrap (j : Int) = (j : Int) := IntWalk.i64_in _ (by omega)
                have v2 : IntKind.i32.wrap p = p := IntWalk.i32_in _ (by omega)
                have v3 : IntKind.i32.wrap q = q := IntWalk.i32_in _ (by omega)
                have xm := XM
                have v4 : IntKind.i32.wrap (x - p) = x - p := IntWalk.i32_in _ (by omega)
                have v5 : IntKind.i32.wrap (x - p + q) = x - p + q := IntWalk.i32_in _ (by omega)
                clear hz hz32
                rcases (by omega : g.length ≤ (j + 1) + 1 ∨ (j + 1) + 1 < g.length) with hn | hn
                · have h4 : (((j : Int) + 1) == (g.length : Int) - 1) = true := by simp only [beq_iff_eq]; omega
                  have HBA : Hid (bigAt g ((j + 1) + 1) = false) := bigAt_past hn
                  clear RG
                  go_wp2_with (at_builtin; refine wpList_app1w wr rfl _ _ 22 rfl w3.heap.size 21 .i32 4 Try.underlying22 info_i32 65533 hown rfl rfl hq1 hq2 hsz ?_; intro A5 c5 d1 w5 he1 o5 g5; have zd1 : d1.length = ds.length + 1 := (by rw [he1.out, List.length_append]; rfl); have hq3 : Fits (d1.length + 1) 4 := (Fits.of (by rw [zd1]; omega)); have hq4 : d1.length + 1 ≤ maxLen := (by unfold maxLen; rw [zd1]; omega); clear zd1; have hs5 := Nat.le_trans hsz (g5.below_new hown hsz).size; have R5 := rg2.next (hbel.trans (g5.below_new hown hsz)); have cx5 := R5.cell HXS.out; have cz5 := R5.cell HZS.out; clear R5)
                  go_region_law (first
                    | (refine step_app1w rfl (.tmp 72) (.tmp 90) 22 rfl w3.heap.size 21 .i32 4 Try.underlying22 info_i32 (x - p + q) o5 (by rfl) (by rfl) hq3 hq4 hs5 ?_; intro A8 c8 d2 w8 he2 o8 g8))
                  all_goals
                    have hb8 := g8.below_new o5 hs5
                    have hb5 := g5.below_new hown hsz
                    have hfin := (hbel.trans hb5).trans hb8
                    clear hown g8 g5 o5
                    clear v1 v2 v3 v4 v5
                    go_wp2
                    go_roundw
                    case rel =>
                      (repeat apply Exists.intro (α := Value))
                      first | refine ⟨?_, rfl⟩ | skip
                      first
                        | refine ⟨(j + 1), A8, c8, d2, by omega, by go_num, ?_, rfl, o8, hfin⟩
                        | refine ⟨(j + 1), by omega, by omega, A8, c8, d2, ?_, ⟨rfl, rfl, rfl⟩, o8, hfin⟩
                        | refine ⟨(j + 1), by omega, by go_num, A8, c8, d2, ?_, ⟨rfl, rfl, rfl⟩, o8, hfin⟩
                        | refine ⟨(j + 1), by omega, by go_num, A8, c8, d2, ?_, rfl, o8, hfin⟩
                      show _ = _
                      rw [he2.out, he1.out, ← hds.out, HT.out, HSEC.out, HPB.out, HBA.out]; simp
                    case measure => first | (simp [intOf]; done) | (simp [intOf]; omega)
                · have h4 : (((j : Int) + 1) == (g.length : Int) - 1) = false := by simp only [beq_eq_false_iff_ne, ne_eq]; omega
                  obtain ⟨b3, off3, y, hA3, hb3, hy, hc3⟩ := RG.at_ (i := (j + 1) + 1) hn
                  injection hA3 with hA3; injection hA3 with e1 e2; subst e1 e2
                  have h6 : ((j : Int) + 1) + 1 < (g.length : Int) := by omega
                  have h6' : (0 : Int) ≤ ((j : Int) + 1) + 1 := by omega
                  by_cases h5 : y < 65536
                  · have HBA : Hid (bigAt g ((j + 1) + 1) = false) := bigAt_small hy h5
                    clear RG hy
                    go_wp2_with (at_builtin; refine wpList_app1w wr rfl _ _ 22 rfl w3.heap.size 21 .i32 4 Try.underlying22 info_i32 65533 hown rfl rfl hq1 hq2 hsz ?_; intro A5 c5 d1 w5 he1 o5 g5; have zd1 : d1.length = ds.length + 1 := (by rw [he1.out, List.length_append]; rfl); have hq3 : Fits (d1.length + 1) 4 := (Fits.of (by rw [zd1]; omega)); have hq4 : d1.length + 1 ≤ maxLen := (by unfold maxLen; rw [zd1]; omega); clear zd1; have hs5 := Nat.le_trans hsz (g5.below_new hown hsz).size; have R5 := rg2.next (hbel.trans (g5.below_new hown hsz)); have cx5 := R5.cell HXS.out; have cz5 := R5.cell HZS.out; clear R5)
                    go_region_law (first
                      | (refine step_app1w rfl (.tmp 72) (.tmp 90) 22 rfl w3.heap.size 21 .i32 4 Try.underlying22 info_i32 (x - p + q) o5 (by rfl) (by rfl) hq3 hq4 hs5 ?_; intro A8 c8 d2 w8 he2 o8 g8))
                    all_goals
                      have hb8 := g8.below_new o5 hs5
                      have hb5 := g5.below_new hown hsz
                      have hfin := (hbel.trans hb5).trans hb8
                      clear hown g8 g5 o5
                      clear v1 v2 v3 v4 v5
                      go_wp2
                      go_roundw
                      case rel =>
                        (repeat apply Exists.intro (α := Value))
                        first | refine ⟨?_, rfl⟩ | skip
                        first
                          | refine ⟨(j + 1), A8, c8, d2, by omega, by go_num, ?_, rfl, o8, hfin⟩
                          | refine ⟨(j + 1), by omega, by omega, A8, c8, d2, ?_, ⟨rfl, rfl, rfl⟩, o8, hfin⟩
                          | refine ⟨(j + 1), by omega, by go_num, A8, c8, d2, ?_, ⟨rfl, rfl, rfl⟩, o8, hfin⟩
                          | refine ⟨(j + 1), by omega, by go_num, A8, c8, d2, ?_, rfl, o8, hfin⟩
                        show _ = _
                        rw [he2.out, he1.out, ← hds.out, HT.out, HSEC.out, HPB.out, HBA.out]; simp
                      case measure => first | (simp [intOf]; done) | (simp [intOf]; omega)
                  · have HBA : Hid (bigAt g ((j + 1) + 1) = true) := bigAt_big hy (by omega)
                    clear RG hy
                    go_wp2_with fail
                    go_region_law (first
                      | (refine step_app1w rfl (.tmp 72) (.tmp 90) 22 rfl w3.heap.size 21 .i32 4 Try.underlying22 info_i32 (x - p + q) hown (by rfl) (by rfl) hq1 hq2 hsz ?_; intro A8 c8 d2 w8 he2 o8 g8))
                    all_goals
                      have hb8 := g8.below_new hown hsz
                      have hfin := hbel.trans hb8
                      clear hown g8
                      clear v1 v2 v3 v4 v5
                      go_wp2
                      go_roundw
                      case rel =>
                        (repeat apply Exists.intro (α := Value))
                        first | refine ⟨?_, rfl⟩ | skip
                        first
                          | refine ⟨(j + 1), A8, c8, d2, by omega, by go_num, ?_, rfl, o8, hfin⟩
                          | refine ⟨(j + 1), by omega, by omega, A8, c8, d2, ?_, ⟨rfl, rfl, rfl⟩, o8, hfin⟩
                          | refine ⟨(j + 1), by omega, by go_num, A8, c8, d2, ?_, ⟨rfl, rfl, rfl⟩, o8, hfin⟩
                          | refine ⟨(j + 1), by omega, by go_num, A8, c8, d2, ?_, rfl, o8, hfin⟩
                        show _ = _
                        rw [he2.out, ← hds.out, HT.out, HSEC.out, HPB.out, HBA.out]; simp
                      case measure => first | (simp [intOf]; done) | (simp [intOf]; omega)
              · have HSEC : Hid (second x (g.take (j + 1)).reverse = [65533]) := by show _ = _; rw [second_some x hz, if_neg hzb]
                have hzb' : z < 65536 := by omega
                clear hz hz32 hzb
                rcases (by omega : g.length ≤ (j + 1) + 1 ∨ (j + 1) + 1 < g.length) with hn | hn
                · have h4 : (((j : Int) + 1) == (g.length : Int) - 1) = true := by simp only [beq_iff_eq]; omega
                  have HBA : Hid (bigAt g ((j + 1) + 1) = false) := bigAt_past hn
                  clear RG
                  go_wp2_with (first
                    | (at_builtin; refine wpList_app1w wr rfl _ _ 22 rfl w3.heap.size 21 .i32 4 Try.underlying22 info_i32 65533 hown rfl rfl hq1 hq2 hsz ?_; intro A5 c5 d1 w5 he1 o5 g5; have zd1 : d1.length = ds.length + 1 := (by rw [he1.out, List.length_append]; rfl); have hq3 : Fits (d1.length + 1) 4 := (Fits.of (by rw [zd1]; omega)); have hq4 : d1.length + 1 ≤ maxLen := (by unfold maxLen; rw [zd1]; omega); clear zd1; have hs5 := Nat.le_trans hsz (g5.below_new hown hsz).size; have R5 := rg2.next (hbel.trans (g5.below_new hown hsz)); have cx5 := R5.cell HXS.out; have cz5 := R5.cell HZS.out; clear R5)
                    | (at_builtin; refine wpList_app1w w5 rfl _ _ 22 rfl w3.heap.size 21 .i32 4 Try.underlying22 info_i32 65533 o5 rfl rfl hq3 hq4 hs5 ?_; intro A8 c8 d2 w8 he2 o8 g8))
                  have hb8 := g8.below_new o5 hs5
                  have hb5 := g5.below_new hown hsz
                  have hfin := (hbel.trans hb5).trans hb8
                  clear hown g8 g5 o5
                  go_roundw
                  case rel =>
                    (repeat apply Exists.intro (α := Value))
                    first | refine ⟨?_, rfl⟩ | skip
                    first
                      | refine ⟨(j + 1), A8, c8, d2, by omega, by go_num, ?_, rfl, o8, hfin⟩
                      | refine ⟨(j + 1), by omega, by omega, A8, c8, d2, ?_, ⟨rfl, rfl, rfl⟩, o8, hfin⟩
                      | refine ⟨(j + 1), by omega, by go_num, A8, c8, d2, ?_, ⟨rfl, rfl, rfl⟩, o8, hfin⟩
                      | refine ⟨(j + 1), by omega, by go_num, A8, c8, d2, ?_, rfl, o8, hfin⟩
                    show _ = _
                    rw [he2.out, he1.out, ← hds.out, HT.out, HSEC.out, HPB.out, HBA.out]; simp
                  case measure => first | (simp [intOf]; done) | (simp [intOf]; omega)
                · have h4 : (((j : Int) + 1) == (g.length : Int) - 1) = false := by simp only [beq_eq_false_iff_ne, ne_eq]; omega
                  obtain ⟨b3, off3, y, hA3, hb3, hy, hc3⟩ := RG.at_ (i := (j + 1) + 1) hn
                  injection hA3 with hA3; injection hA3 with e1 e2; subst e1 e2
                  have h6 : ((j : Int) + 1) + 1 < (g.length : Int) := by omega
                  have h6' : (0 : Int) ≤ ((j : Int) + 1) + 1 := by omega
                  by_cases h5 : y < 65536
                  · have HBA : Hid (bigAt g ((j + 1) + 1) = false) := bigAt_small hy h5
                    clear RG hy
                    go_wp2_with (first
                      | (at_builtin; refine wpList_app1w wr rfl _ _ 22 rfl w3.heap.size 21 .i32 4 Try.underlying22 info_i32 65533 hown rfl rfl hq1 hq2 hsz ?_; intro A5 c5 d1 w5 he1 o5 g5; have zd1 : d1.length = ds.length + 1 := (by rw [he1.out, List.length_append]; rfl); have hq3 : Fits (d1.length + 1) 4 := (Fits.of (by rw [zd1]; omega)); have hq4 : d1.length + 1 ≤ maxLen := (by unfold maxLen; rw [zd1]; omega); clear zd1; have hs5 := Nat.le_trans hsz (g5.below_new hown hsz).size; have R5 := rg2.next (hbel.trans (g5.below_new hown hsz)); have cx5 := R5.cell HXS.out; have cz5 := R5.cell HZS.out; clear R5)
                      | (at_builtin; refine wpList_app1w w5 rfl _ _ 22 rfl w3.heap.size 21 .i32 4 Try.underlying22 info_i32 65533 o5 rfl rfl hq3 hq4 hs5 ?_; intro A8 c8 d2 w8 he2 o8 g8))
                    have hb8 := g8.below_new o5 hs5
                    have hb5 := g5.below_new hown hsz
                    have hfin := (hbel.trans hb5).trans hb8
                    clear hown g8 g5 o5
                    go_roundw
                    case rel =>
                      (repeat apply Exists.intro (α := Value))
                      first | refine ⟨?_, rfl⟩ | skip
                      first
                        | refine ⟨(j + 1), A8, c8, d2, by omega, by go_num, ?_, rfl, o8, hfin⟩
                        | refine ⟨(j + 1), by omega, by omega, A8, c8, d2, ?_, ⟨rfl, rfl, rfl⟩, o8, hfin⟩
                        | refine ⟨(j + 1), by omega, by go_num, A8, c8, d2, ?_, ⟨rfl, rfl, rfl⟩, o8, hfin⟩
                        | refine ⟨(j + 1), by omega, by go_num, A8, c8, d2, ?_, rfl, o8, hfin⟩
                      show _ = _
                      rw [he2.out, he1.out, ← hds.out, HT.out, HSEC.out, HPB.out, HBA.out]; simp
                    case measure => first | (simp [intOf]; done) | (simp [intOf]; omega)
                  · have HBA : Hid (bigAt g ((j + 1) + 1) = true) := bigAt_big hy (by omega)
                    clear RG hy
                    go_wp2_with (at_builtin; refine wpList_app1w wr rfl _ _ 22 rfl w3.heap.size 21 .i32 4 Try.underlying22 info_i32 65533 hown rfl rfl hq1 hq2 hsz ?_; intro A8 c8 d2 w8 he2 o8 g8)
                    have hb8 := g8.below_new hown hsz
                    have hfin := hbel.trans hb8
                    clear hown g8
                    go_roundw
                    case rel =>
                      (repeat apply Exists.intro (α := Value))
                      first | refine ⟨?_, rfl⟩ | skip
                      first
                        | refine ⟨(j + 1), A8, c8, d2, by omega, by go_num, ?_, rfl, o8, hfin⟩
                        | refine ⟨(j + 1), by omega, by omega, A8, c8, d2, ?_, ⟨rfl, rfl, rfl⟩, o8, hfin⟩
                        | refine ⟨(j + 1), by omega, by go_num, A8, c8, d2, ?_, ⟨rfl, rfl, rfl⟩, o8, hfin⟩
                        | refine ⟨(j + 1), by omega, by go_num, A8, c8, d2, ?_, rfl, o8, hfin⟩
                      show _ = _
                      rw [he2.out, ← hds.out, HT.out, HSEC.out, HPB.out, HBA.out]; simp
                    case measure => first | (simp [intOf]; done) | (simp [intOf]; omega)
        · have hk1 : k = 0 := by omega
          subst hk1
          have HD : Hid (ds = turnT false g.reverse) := by show _ = _; rw [← hds.out]; simp [turnT]
          have HDT : Hid (dec16 ts = ds) := by show _ = _; rw [HT0.out, HU.out, turned_dec GG.out, HD.out]
          have zdt : (dec16 ts).length ≤ 52776558131712 := by rw [HDT.out]; exact zds
          have hfd : Fits (dec16 ts).length 4 := Fits.of (by omega)
          clear hds hk0
          go_wp2_with fail
          refine (decodeUnits_w (rt.next hbel) WT.out (by omega) hfd).mono ?_
          rintro e w12 ⟨A12, c12, d, hd, rfl, o12, l12⟩
          have zd : d.length ≤ 52776558131712 := by rw [hd.out]; exact zdt
          have HQ : Hid (decide (d = ds) = true) := by show _ = _; rw [hd.out, HT0.out, HU.out, turned_dec GG.out, HD.out]; simp
          go_wp2_with fail
          refine (sameRunes_any o12.rd (hown.next l12).rd (by omega)).mono ?_
          rw [HQ.out]
          rintro e w13 ⟨rfl, n13, rfl⟩
          go_wp2
          go_ret
          exact ⟨rfl, bdrewN (bnext lw2 (bnext hbel l12)) n13⟩
end Go.Proofs.Ytlbdhfpakajdaaa
