/- FnFullAtCuts: the walk. -/
import Derived.Test.YtcbfbccmghdpgaaDoorPlainIdx
import Derived.Test.YtcbfbccmghdpgaaDoorFull
import Derived.Test.YtcbfbccmghdpgaaDoorStep2
import Derived.Test.YtcbfbccmghdpgaaDoorQuiet
set_option linter.unusedVariables false
namespace Go.Proofs.YtcbfbccmghdpgaaDoor
open Go.RowKit P

theorem run_cut_p {P : Program} {w : World} (t e : TypeId) (ht : P.underlying t = some (.slice e)) (i : TypeInfo) (hi : P.info? e = some i) (hs : i.size = 1) (A : Option Addr) (len cap lo n : Nat) (z z' : Int) (hz : z = (lo : Int)) (hz' : z' = (lo : Int) + (n : Int)) (h2 : lo + n ≤ cap) :
    (Instr.slice t (.slice A len cap) (some (.int .i64 z)) (some (.int .i64 z')) none).run P w = .ok (.slice (cutA A cap lo) n (cap - lo)) w := by
  subst hz hz'
  have h := run_cut (P := P) (w := w) t e ht i hi hs A len cap lo (lo + n) (by omega) h2
  rw [show lo + n - lo = n by omega] at h
  simpa using h

theorem mem_L {g : List Int} (hg : ∀ r ∈ g, good r = true) (k : Nat) : ((k : Int) ∈ places 0 g) ↔ ∃ j, j ≤ g.length ∧ L g j = k := by
  constructor
  · intro h
    obtain ⟨j, hj, he⟩ := List.mem_iff_getElem.1 h
    rw [places_length] at hj
    have h1 := places_at 0 hg j (by omega)
    rw [List.getElem?_eq_getElem (by rw [places_length]; exact hj), he] at h1
    injection h1 with h1
    exact ⟨j, by omega, by omega⟩
  · rintro ⟨j, hj, he⟩
    have h1 := places_at 0 hg j hj
    rw [he] at h1
    have := List.mem_of_getElem? h1
    simpa using this

/-- the place behind the last rune that ends ahead of k -/
def LastEnd (g : List Int) (k fr : Nat) : Prop := ∃ i, i ≤ g.length ∧ fr = L g i ∧ (∀ j, j ≤ g.length → L g j < k → j ≤ i) ∧ (fr < k ∨ (k = 0 ∧ fr = 0))
theorem LastEnd.zero (g : List Int) : LastEnd g 0 0 := ⟨0, by omega, by simp [L, encs_nil], fun j _ h => by omega, .inr ⟨rfl, rfl⟩⟩
theorem lastEnd_yes {g b : List Int} {k fr : Nat} (hb : b = encs g) (h : LastEnd g k fr) (hm : ∃ j, j ≤ g.length ∧ L g j = k) : LastEnd g (k + 1) k := by
  obtain ⟨j, hj, he⟩ := hm
  refine ⟨j, hj, he.symm, fun m hm hl => ?_, .inl (by omega)⟩
  by_cases hmj : m ≤ j
  · exact hmj
  · have h1 := L_lt (g := g) (i := j) (by omega)
    have h2 := L_mono g m (j + 1) (by omega); omega
theorem lastEnd_no {g b : List Int} {k fr : Nat} (hg : ∀ r ∈ g, good r = true) (hb : b = encs g) (hk : k ≤ b.length) (h : LastEnd g k fr) (hm : ¬ ∃ j, j ≤ g.length ∧ L g j = k) : LastEnd g (k + 1) fr ∧ Part ((b.drop fr).take (k - fr)) ∧ fr ≤ k := by
  obtain ⟨i, hi, hf, hj, ho⟩ := h
  have h0 : k ≠ 0 := fun e => hm ⟨0, by omega, by rw [e]; simp [L, encs_nil]⟩
  have hfk : fr < k := by omega
  refine ⟨⟨i, hi, hf, fun m hm' hl => ?_, .inl (by omega)⟩, ?_, by omega⟩
  · refine hj m hm' ?_
    have : L g m ≠ k := fun e => hm ⟨m, hm', e⟩
    omega
  · have hin : i < g.length := by
      by_cases e : i < g.length
      · exact e
      · have hii : i = g.length := by omega
        rw [hii, L_all, ← hb] at hf; omega
    have hr : g[i]? = some g[i] := List.getElem?_eq_getElem hin
    have hs := L_succ hr
    have hlt : k < L g (i + 1) := by
      by_cases e : k < L g (i + 1)
      · exact e
      · have h1 : L g (i + 1) ≠ k := fun e' => hm ⟨i + 1, by omega, e'⟩
        have := hj (i + 1) (by omega) (by omega); omega
    refine ⟨g[i], k - fr, hg _ (List.getElem_mem hin), by omega, ?_⟩
    have hd : b.drop fr = enc g[i] ++ encs (g.drop (i + 1)) := by
      rw [hb, hf, encs_split hr]
      unfold L; simp
    rw [hd, List.take_append_of_le_length (by omega)]

set_option maxRecDepth 100000 in
set_option maxHeartbeats 4000000 in
theorem fullAtCuts_walk {A : Option Addr} {xs : List Int} {c : Nat} {w : World} (hx : Rd w .i32 A xs) (hi : I32 xs) (hT : Tabs w) (hl : xs.length ≤ 1048576) :
    Calls Tryd.prog 7 #[.slice A xs.length c] w fun e w' => e = .returned (.bool true) ∧ Below w.heap.size w w' := by
  obtain ⟨j8, hj8, _, hs8, _⟩ := info_parts info_u8
  have J8 := Lib.hid (And.intro hj8 hs8)
  clear hj8 hs8
  go_enter Tryd.func7, Tryd.ntmps7
  go_wp2_with fail
  refine (goodOnes_any hx (by omega)).mono ?_
  rintro e w1 ⟨A1, c1, g, hg, rfl, o1, l1⟩
  have zg : g.length ≤ 1048576 := by rw [hg.out]; have := filter_le xs; omega
  have ig := hi.good hg.out
  have gg : ∀ r ∈ g, good r = true := by rw [hg.out]; exact good_filter xs
  have GG := Lib.hid gg
  clear gg hx
  go_wp2_with fail
  refine (appendNil_any o1.rd ig (by omega)).mono ?_
  rintro e w2 ⟨A2, c2, b, hb, rfl, o2, l2⟩
  go_wp2_with fail
  refine (byteLens_any (o1.next l2).rd (by omega)).mono ?_
  rintro e w3 ⟨A3, c3, ls, hls, rfl, o3, l3⟩
  have zl : ls.length ≤ 1048576 := by rw [hls.out, List.length_map]; exact zg
  go_wp2_with fail
  refine (endsOf_any o3.rd (lens_bounds hls.out) (by omega)).mono ?_
  rintro e w4 ⟨A4, c4, en, hen, rfl, o4, l4⟩
  have hpl : en = places 0 g := by rw [hen.out, hls.out]; rfl
  have HPL := Lib.hid hpl
  have ze : en.length = g.length + 1 := by rw [hpl, places_length]
  have zb : b.length ≤ 4194304 := by rw [hb.out]; have := (encs_len g).2; omega
  have t1 : ((en.length : Int) != (g.length : Int) + 1) = false := by simp only [bne_eq_false_iff_eq]; omega
  have hlast : en[g.length]? = some ((b.length : Int)) := by rw [HPL.out, places_last 0 GG.out, hb.out]; simp
  have HLA : Hid (en[en.length - 1]? = some ((b.length : Int))) := by show _ = _; rw [show en.length - 1 = g.length by omega]; exact hlast
  have ie : (1 : Int) ≤ (en.length : Int) := by omega
  have ie2 : en.length ≤ 1048577 := by omega
  have ie3 : 1 ≤ en.length := by omega
  have ZE := Lib.hid ze
  have l24 := bnext l3 l4
  have rb := (o2.next l24).rd
  have kb := o2.len.2
  have ren := o4.rd
  have l04 := bnext (bnext l1 l2) l24
  have hT4 := hT.next l04
  have HB : Hid (b = encs g) := hb
  clear o1 o2 o3 o4 l1 l2 l3 l4 l24 hlast hpl ze hls hen hb hg ig zl hT
  go_wp2
  go_loopw [6, 7, 29] (fun v6 v7 v29 wr => ∃ (k fr : Nat) (A6 : Option Addr) (c6 : Nat) (vs : List Value) (ps : List (List Int)), k ≤ b.length + 1 ∧ fr ≤ b.length ∧ vs.length ≤ k ∧ v29 = .int .i64 k ∧ v7 = .int .i64 fr ∧ Hid (LastEnd g k fr) ∧ v6 = .slice A6 vs.length c6 ∧ OwnV wr w4.heap.size 29 (.slice A6 vs.length c6) vs ∧ PcsO wr w4.heap.size vs ps ∧ Hid (∀ l ∈ ps, Part l) ∧ Below w4.heap.size w4 wr)
    (fun _ _ v29 _ => b.length + 1 - (intOf v29).toNat)
  case atStart => exact ⟨0, 0, _, 0, [], [], Nat.zero_le _, Nat.zero_le _, Nat.le_refl _, rfl, rfl, LastEnd.zero g, rfl, OwnV.empty _ _, PcsO.nil _ _, (fun l h => by cases h), (Below.refl _ _).alloc (Nat.le_refl _) _⟩
  case round =>
    obtain ⟨k, fr, A6, c6, vs, ps, hk, hfr, hvk, rfl, rfl, hLE, rfl, hown, hpc, hPs, hbel⟩ := hrel
    have hsz := hbel.size
    by_cases hlt : k < b.length + 1
    · have h1 : (k : Int) < (b.length : Int) + 1 := by omega
      have hq1 : (vs.length + 1) * 24 ≤ 140737488355328 := by omega
      have hq2 : vs.length + 1 ≤ maxLen := by unfold maxLen; omega
      have hz0 : ([] : List Int).length ≤ 140737488355328 := by simp
      have rb1 := rb.next hbel
      have ren1 := ren.next hbel
      by_cases hm : ∃ j, j ≤ g.length ∧ L g j = k
      · have hL2 := lastEnd_yes HB.out hLE.out hm
        have HM : Hid (decide ((k : Int) ∈ en) = true) := by show _ = _; rw [HPL.out]; exact decide_eq_true ((mem_L GG.out k).2 hm)
        have HL2 := Lib.hid hL2
        have hcut := fun W => run_cut_p (P := Tryd.prog) (w := W) 29 5 Tryd.underlying29 j8 J8.out.1 J8.out.2 A2 b.length c2 k 0 (k : Int) (k : Int) rfl (by omega) (by omega)
        clear hL2 hm
        go_wp2_with (first
          | (go_at_call 25; refine (isEnd_any ren1 _ (by omega)).mono ?_; rw [HM.out]; rintro e w' ⟨rfl, rfl⟩)
          | (go_at_call 22; refine (copied_q (bs := []) (n := 0) (Rd.nil _ _ _) rfl hz0).mono ?_; rintro e w5 ⟨A5, c5, p5, hp5, rfl, o5, l5⟩; have hown1 := hown.next l5; have hpc1 := hpc.next l5; have hs1 := Nat.le_trans hsz l5.size)
          | (at_builtin; refine wpList_app1v w5 rfl _ _ 49 rfl w4.heap.size 29 Tryd.underlying49 info_bytes (.slice A5 p5.length c5) rfl hown1 rfl rfl hq1 hq2 hs1 ?_; intro A7 c7 vs1 w7 he1 hown3 hg3))
        have hb7 := hg3.below_newV hown1 hs1
        have hz : vs1.length ≤ k + 1 := by rw [he1.out, List.length_append]; simp; omega
        have hp2 := ((hpc1.snoc (o5.lower hsz)).alloc (.cells #[.slice A5 p5.length c5] 29)).grow hg3 (hown1.alloc _)
        rw [← he1.out] at hp2
        have HP2 : Hid (∀ l ∈ ps ++ [p5], Part l) := fun l hl => by
          rcases List.mem_append.1 hl with h | h
          · exact hPs.out l h
          · simp at h; rw [h, hp5.out]; exact Part.nil
        have hfin := (bnext hbel l5).trans hb7
        clear hown hown1 hpc hpc1 o5 hg3 l5 rb1 ren1 hcut
        go_roundw
        case rel => exact ⟨k + 1, k, A7, c7, vs1, ps ++ [p5], by omega, by omega, hz, by go_num, by go_num, HL2, rfl, hown3, hp2, HP2, hfin⟩
        case measure => simp [intOf]; omega
      · obtain ⟨hL2, hPart, hfk⟩ := lastEnd_no GG.out HB.out (by omega) hLE.out hm
        have HM : Hid (decide ((k : Int) ∈ en) = false) := by show _ = _; rw [HPL.out]; exact decide_eq_false fun h => hm ((mem_L GG.out k).1 h)
        have HL2 := Lib.hid hL2
        have HPt := Lib.hid hPart
        have hcut := fun W => run_cut_p (P := Tryd.prog) (w := W) 29 5 Tryd.underlying29 j8 J8.out.1 J8.out.2 A2 b.length c2 fr (k - fr) (fr : Int) (k : Int) rfl (by omega) (by omega)
        have rpt := (rb1.drop c2 fr kb).take (k - fr)
        have zpt : ((b.drop fr).take (k - fr)).length = k - fr := by rw [List.length_take, List.length_drop]; omega
        have ZPT := Lib.hid zpt
        have zpt2 : ((b.drop fr).take (k - fr)).length ≤ 140737488355328 := by rw [zpt]; omega
        clear zpt hL2 hPart hm
        go_wp2_with (first
          | (go_at_call 25; refine (isEnd_any ren1 _ (by omega)).mono ?_; rw [HM.out]; rintro e w' ⟨rfl, rfl⟩)
          | (go_at_call 22; refine (copied_q rpt ZPT.out zpt2).mono ?_; rintro e w5 ⟨A5, c5, p5, hp5, rfl, o5, l5⟩; have hown1 := hown.next l5; have hpc1 := hpc.next l5; have hs1 := Nat.le_trans hsz l5.size)
          | (at_builtin; refine wpList_app1v w5 rfl _ _ 49 rfl w4.heap.size 29 Tryd.underlying49 info_bytes (.slice A5 p5.length c5) rfl hown1 rfl rfl hq1 hq2 hs1 ?_; intro A7 c7 vs1 w7 he1 hown3 hg3))
        have hb7 := hg3.below_newV hown1 hs1
        have hz : vs1.length ≤ k + 1 := by rw [he1.out, List.length_append]; simp; omega
        have hp2 := ((hpc1.snoc (o5.lower hsz)).alloc (.cells #[.slice A5 p5.length c5] 29)).grow hg3 (hown1.alloc _)
        rw [← he1.out] at hp2
        have HP2 : Hid (∀ l ∈ ps ++ [p5], Part l) := fun l hl => by
          rcases List.mem_append.1 hl with h | h
          · exact hPs.out l h
          · simp at h; rw [h, hp5.out]; exact HPt.out
        have hfin := (bnext hbel l5).trans hb7
        clear hown hown1 hpc hpc1 o5 hg3 l5 rpt rb1 ren1 hcut
        go_roundw
        case rel => exact ⟨k + 1, fr, A7, c7, vs1, ps ++ [p5], by omega, by omega, hz, by go_num, by go_num, HL2, rfl, hown3, hp2, HP2, hfin⟩
        case measure => simp [intOf]; omega
    · have h1 : ¬ (k : Int) < (b.length : Int) + 1 := by omega
      have zvs : vs.length ≤ 16777216 := by omega
      go_wp2_with fail
      refine (fullEach_parts hown.rdv hpc hPs.out (hT4.next hbel) zvs).mono ?_
      rintro e w5 ⟨A5, c5, fu, hfu, rfl, o5, l5⟩
      have zfu : fu.length = vs.length := by rw [hfu.out, List.length_replicate]
      have ZFU := Lib.hid zfu
      have zfu2 : fu.length ≤ 16777216 := by omega
      have t6 : ((fu.length : Int) == (vs.length : Int)) = true := by simp only [beq_iff_eq]; omega
      have rfu := o5.rd
      have lw5 := bnext l04 (bnext hbel l5)
      obtain ⟨be, offe, ye, hAe, hbe, hye, hce⟩ := (ren.next (bnext hbel l5)).at_ (i := en.length - 1) (by omega)
      rw [HLA.out] at hye
      injection hye with hye
      subst hye hAe
      have t7 : ((b.length : Int) == (b.length : Int)) = true := by simp
      clear zfu o5 hown hpc hbel l5 hLE
      go_wp2
      go_loopw [49] (fun v49 wr => ∃ j : Nat, j ≤ fu.length ∧ v49 = .int .i64 j ∧ Below w5.heap.size w5 wr) (fun v49 _ => fu.length - (intOf v49).toNat)
      case atStart => exact ⟨0, Nat.zero_le _, rfl, Below.refl _ _⟩
      case round =>
        obtain ⟨j, hj, rfl, hbel2⟩ := hrel
        by_cases hlt2 : j < fu.length
        · obtain ⟨b1, off1, q, hA1, hb1, hq, hc1⟩ := (rfu.next hbel2).at_ hlt2
          subst hA1
          have hqf : q = false := by
            rw [hfu.out, List.getElem?_replicate] at hq
            split at hq
            · injection hq with hq; exact hq.symm
            · cases hq
          subst hqf
          have h2 : (j : Int) < (fu.length : Int) := by omega
          clear hq
          go_wp2
          go_roundw
          case rel => exact ⟨j + 1, by omega, by go_num, hbel2⟩
          case measure => simp [intOf]; omega
        · have h2 : ¬ (j : Int) < (fu.length : Int) := by omega
          have hce2 := (hbel2.cell (p := ⟨be, offe + (en.length - 1), none⟩) hbe).trans hce
          go_wp2
          go_ret
          exact ⟨rfl, bnext lw5 hbel2⟩
end Go.Proofs.YtcbfbccmghdpgaaDoor
