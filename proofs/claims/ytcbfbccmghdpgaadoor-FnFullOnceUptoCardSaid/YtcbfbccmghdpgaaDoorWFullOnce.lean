/- FnFullOnce: the walk. -/
import Derived.Test.YtcbfbccmghdpgaaDoorFull2
import Derived.Test.YtcbfbccmghdpgaaDoorScript
import Derived.Test.YtcbfbccmghdpgaaDoorStep2
set_option linter.unusedVariables false
namespace Go.Proofs.YtcbfbccmghdpgaaDoor
open Go.RowKit P

theorem RdB.one (w : World) (e : TypeId) (y : Bool) : RdB (w.alloc (.cells #[.bool y] e)) (some ⟨w.heap.size, 0, none⟩) [y] := fun _ =>
  ⟨w.heap.size, 0, rfl, by simp, fun j x hx => by
    match j, hx with
    | 0, hx =>
      simp at hx; subst hx
      simp⟩
theorem Part.pre {m m' : List Int} (h : Part m) (hp : m' <+: m) : Part m' := by
  obtain ⟨r, p, hg, hlt, rfl⟩ := h
  refine ⟨r, m'.length, hg, ?_, ?_⟩
  · have := hp.length_le; rw [List.length_take] at this; omega
  · have h2 : m' <+: enc r := hp.trans (List.take_prefix _ _)
    exact List.prefix_iff_eq_take.1 h2
theorem Part.short {m : List Int} (h : Part m) : m.length ≤ 3 := by
  obtain ⟨r, p, hg, hlt, rfl⟩ := h
  have := (enc_len r).2
  rw [List.length_take]; omega
theorem full_mono {l : List Int} {i j : Nat} (h : fullB (l.take i) = true) (hij : i ≤ j) : fullB (l.take j) = true := by
  refine fullB_true fun hp => ?_
  have hp2 := hp.pre (m' := l.take i) (by
    rw [show l.take i = (l.take j).take i by rw [List.take_take, Nat.min_eq_left hij]]
    exact List.take_prefix _ _)
  rw [fullB_false hp2] at h; cases h
theorem full_dec {l : List Int} {m : Nat} (hb : Bytes l) (h : fullB (l.take m) = true) : dec1 (l.take m) = dec1 l := by
  have hnp : ¬ Part (l.take m) := fun hp => by rw [fullB_false hp] at h; cases h
  have hne : l.take m ≠ [] := fun e => hnp (by rw [e]; exact Part.nil)
  have hnl : l ≠ [] := fun e => hne (by rw [e]; simp)
  rcases dec1_cases hb hnl with e | ⟨r, hg, hp, e⟩
  · rw [e]
    refine dec1_none (hb.take _) hne fun s hs hp => ?_
    exact dec1_err e s hs (hp.trans (List.take_prefix _ _))
  · rw [e]
    refine dec1_enc hg ?_
    by_cases hle : (enc r).length ≤ (l.take m).length
    · rw [List.prefix_iff_eq_take.1 hp, List.prefix_iff_eq_take, List.length_take, List.take_take]
      have h1 := hp.length_le
      rw [List.length_take] at hle
      rw [Nat.min_eq_left h1]
      congr 1
      omega
    · exfalso
      refine hnp ⟨r, (l.take m).length, hg, by omega, ?_⟩
      have h2 : l.take m <+: l := List.take_prefix _ _
      have h3 := List.prefix_of_prefix_length_le h2 hp (by omega)
      exact List.prefix_iff_eq_take.1 h3

set_option maxRecDepth 100000 in
set_option maxHeartbeats 4000000 in
theorem fullOnce_walk {A : Option Addr} {l : List Int} {c : Nat} {w : World} (hr : Rd w .u8 A l) (hb : Bytes l) (hT : Tabs w) (hcap : l.length ≤ c) (hl : l.length ≤ 1048576) :
    Calls Tryd.prog 14 #[.slice A l.length c] w fun e w' => e = .returned (.bool true) ∧ Below w.heap.size w w' := by
  obtain ⟨j8, hj8, _, hs8, _⟩ := info_parts info_u8
  have J8 := Lib.hid (And.intro hj8 hs8)
  have BY := Lib.hid hb
  clear hj8 hs8 hb
  go_enter Tryd.func14, Tryd.ntmps14
  go_wp2
  go_loopw [3, 17] (fun v3 v17 wr => ∃ (k : Nat) (A3 : Option Addr) (c3 : Nat) (vs : List Value), k ≤ l.length + 1 ∧ vs.length ≤ k ∧ v17 = .int .i64 k ∧ v3 = .slice A3 vs.length c3 ∧ OwnV wr w.heap.size 29 (.slice A3 vs.length c3) vs ∧ PcsO wr w.heap.size vs ((List.range k).map fun i => l.take i) ∧ Below w.heap.size w wr)
    (fun _ v17 _ => l.length + 1 - (intOf v17).toNat)
  case atStart => exact ⟨0, _, 0, [], Nat.zero_le _, Nat.le_refl _, rfl, rfl, OwnV.empty _ _, PcsO.nil _ _, (Below.refl _ _).alloc (Nat.le_refl _) _⟩
  case round =>
    obtain ⟨k, A3, c3, vs, hk, hvk, rfl, rfl, hown, hpc, hbel⟩ := hrel
    have hsz := hbel.size
    by_cases hlt : k < l.length + 1
    · have h1 : (k : Int) < (l.length : Int) + 1 := by omega
      have hq1 : (vs.length + 1) * 24 ≤ 140737488355328 := by omega
      have hq2 : vs.length + 1 ≤ maxLen := by unfold maxLen; omega
      have hcut := fun W => run_cut_h (P := Tryd.prog) (w := W) 29 5 Tryd.underlying29 j8 J8.out.1 A l.length c k (k : Int) rfl (by omega)
      have rpt := (hr.next hbel).take k
      have zpt : (l.take k).length = k := by rw [List.length_take]; omega
      have ZPT := Lib.hid zpt
      have zpt2 : (l.take k).length ≤ 140737488355328 := by rw [zpt]; omega
      have HRG : Hid ((List.range (k + 1)).map (fun i => l.take i) = (List.range k).map (fun i => l.take i) ++ [l.take k]) := by show _ = _; rw [List.range_succ, List.map_append]; rfl
      clear zpt
      go_wp2_with (first
        | (go_at_call 22; refine (copied_q rpt ZPT.out zpt2).mono ?_; rintro e w5 ⟨A5, c5, p5, hp5, rfl, o5, l5⟩; have hown1 := hown.next l5; have hpc1 := hpc.next l5; have hs1 := Nat.le_trans hsz l5.size)
        | (at_builtin; refine wpList_app1v w5 rfl _ _ 49 rfl w.heap.size 29 Tryd.underlying49 info_bytes (.slice A5 p5.length c5) rfl hown1 rfl rfl hq1 hq2 hs1 ?_; intro A7 c7 vs1 w7 he1 hown3 hg3))
      have hb7 := hg3.below_newV hown1 hs1
      have hz : vs1.length ≤ k + 1 := by rw [he1.out, List.length_append]; simp; omega
      have hp2 := ((hpc1.snoc (o5.lower hsz)).alloc (.cells #[.slice A5 p5.length c5] 29)).grow hg3 (hown1.alloc _)
      rw [← he1.out, hp5.out, ← HRG.out] at hp2
      have hfin := (bnext hbel l5).trans hb7
      clear hown hown1 hpc hpc1 o5 hg3 l5 rpt hcut
      go_roundw
      case rel => exact ⟨k + 1, A7, c7, vs1, by omega, hz, by go_num, rfl, hown3, hp2, hfin⟩
      case measure => simp [intOf]; omega
    · have h1 : ¬ (k : Int) < (l.length : Int) + 1 := by omega
      have hke : k = l.length + 1 := by omega
      have ZV : Hid (vs.length = l.length + 1) := by show _ = _; rw [hpc.1, List.length_map, List.length_range, hke]
      have zvs : vs.length ≤ 16777216 := by omega
      have hBp : ∀ m ∈ (List.range k).map fun i => l.take i, Bytes m := fun m hm => by
        obtain ⟨i, _, rfl⟩ := List.mem_map.1 hm
        exact BY.out.take _
      have HK := Lib.hid hke
      have hTr := hT.next hbel
      have rv := hown.rdv
      clear hke
      go_wp2_with fail
      refine (fullEach_any rv hpc hBp hTr zvs).mono ?_
      rintro e w5 ⟨A5, c5, fu, hfu, rfl, o5, l5⟩
      have ZF : Hid (fu.length = l.length + 1) := by show _ = _; rw [hfu.out, List.length_map, List.length_map, List.length_range, HK.out]
      have zfu : fu.length ≤ 16777216 := by rw [ZF.out]; omega
      have t1 : ((fu.length : Int) != (vs.length : Int)) = false := by simp only [bne_eq_false_iff_eq]; rw [ZF.out, ZV.out]
      have HFU : Hid (∀ (j : Nat) (q : Bool), fu[j]? = some q → q = fullB (l.take j) ∧ j ≤ l.length) := fun j q hq => by
        rw [hfu.out, List.map_map, List.getElem?_map] at hq
        obtain ⟨i, hi, hy⟩ := Option.map_eq_some_iff.1 hq
        obtain ⟨hil, hii⟩ := List.getElem?_eq_some_iff.1 hi
        simp only [List.length_range] at hil
        simp only [List.getElem_range] at hii
        subst hii
        exact ⟨hy.symm, by have := HK.out; omega⟩
      have rfu := o5.rd
      have rv5 := rv.next l5
      have pv5 := hpc.next l5
      have lw5 := bnext hbel l5
      have rb5 := hr.next lw5
      have hT5 := hT.next lw5
      obtain ⟨bf, offf, qf, hAf, hbf, hqf, hcf⟩ := rfu.at_ (i := 0) (by rw [ZF.out]; omega)
      have hqf0 : qf = false := by rw [(HFU.out 0 qf hqf).1]; exact fullB_false (by rw [List.take_zero]; exact Part.nil)
      subst hAf hqf0
      have hcf0 : w5.cell? ⟨bf, offf, none⟩ = some (.bool false) := by simpa using hcf
      have t2 : (0 : Int) < (fu.length : Int) := by rw [ZF.out]; omega
      clear o5 hown hpc l5 hbel rv hTr hfu hqf hcf hBp hr hT
      go_wp2
      go_loopw [6, 42] (fun v6 v42 wr => ∃ (j : Nat) (f : Int), j ≤ fu.length ∧ v6 = .int .i64 f ∧ v42 = .int .i64 j ∧ -1 ≤ f ∧ f ≤ l.length ∧ Hid ((f = -1 ∧ ∀ i : Nat, i < j → fullB (l.take i) = false) ∨ ∃ m : Nat, f = (m : Int) ∧ m < j ∧ m ≤ l.length ∧ fullB (l.take m) = true) ∧ Below w5.heap.size w5 wr) (fun _ v42 _ => fu.length - (intOf v42).toNat)
      case atStart => exact ⟨0, -1, Nat.zero_le _, rfl, rfl, by omega, by omega, .inl ⟨rfl, fun i hi => by omega⟩, Below.refl _ _⟩
      case round =>
        obtain ⟨j, f, hj, rfl, rfl, hf1, hf2, hF, hbel2⟩ := hrel
        by_cases hlt2 : j < fu.length
        · obtain ⟨b1, off1, q, hA1, hb1, hq, hc1⟩ := (rfu.next hbel2).at_ hlt2
          injection hA1 with hA1; injection hA1 with e1 e2; subst e1 e2
          obtain ⟨hqv, hjl⟩ := HFU.out j q hq
          have h2 : (j : Int) < (fu.length : Int) := by omega
          have hFo := hF.out
          clear hq hF
          rcases hFo with ⟨hfm, hall⟩ | ⟨m, hfm, hmj, hml, hmf⟩
          · subst hfm
            cases q
            · have h3 : (j : Int) < 4 := by
                by_cases e : j < 4
                · omega
                · exfalso
                  have : fullB (l.take j) = true := fullB_true fun hp => by
                    have := hp.short
                    rw [List.length_take] at this; omega
                  rw [this] at hqv; cases hqv
              have HF2 : Hid (((-1 : Int) = -1 ∧ ∀ i : Nat, i < j + 1 → fullB (l.take i) = false) ∨ ∃ m : Nat, (-1 : Int) = (m : Int) ∧ m < j + 1 ∧ m ≤ l.length ∧ fullB (l.take m) = true) := .inl ⟨rfl, fun i hi => by
                by_cases e : i < j
                · exact hall i e
                · rw [show i = j by omega]; exact hqv.symm⟩
              clear hqv hall
              go_wp2
              go_roundw
              case rel => exact ⟨j + 1, -1, by omega, by go_num, by go_num, by omega, by omega, HF2, hbel2⟩
              case measure => simp [intOf]; omega
            · have HF2 : Hid (((j : Int) = -1 ∧ ∀ i : Nat, i < j + 1 → fullB (l.take i) = false) ∨ ∃ m : Nat, (j : Int) = (m : Int) ∧ m < j + 1 ∧ m ≤ l.length ∧ fullB (l.take m) = true) := .inr ⟨j, rfl, by omega, hjl, hqv.symm⟩
              clear hqv hall
              go_wp2
              go_roundw
              case rel => exact ⟨j + 1, (j : Int), by omega, by go_num, by go_num, by omega, by omega, HF2, hbel2⟩
              case measure => simp [intOf]; omega
          · subst hfm
            have hqt : q = true := by rw [hqv]; exact full_mono hmf (by omega)
            subst hqt
            have h3 : ¬ (m : Int) < 0 := by omega
            have HF2 : Hid (((m : Int) = -1 ∧ ∀ i : Nat, i < j + 1 → fullB (l.take i) = false) ∨ ∃ m' : Nat, (m : Int) = (m' : Int) ∧ m' < j + 1 ∧ m' ≤ l.length ∧ fullB (l.take m') = true) := .inr ⟨m, rfl, by omega, hml, hmf⟩
            clear hqv hmf
            go_wp2
            go_roundw
            case rel => exact ⟨j + 1, (m : Int), by omega, by go_num, by go_num, by omega, by omega, HF2, hbel2⟩
            case measure => simp [intOf]; omega
        · have h2 : ¬ (j : Int) < (fu.length : Int) := by omega
          have hFo := hF.out
          clear hF
          rcases hFo with ⟨hfm, hall⟩ | ⟨m, hfm, hmj, hml, hmf⟩
          · subst hfm
            clear hall
            go_wp2
            go_ret
            exact ⟨rfl, bnext lw5 hbel2⟩
          · subst hfm
            have h3 : ¬ (m : Int) < 0 := by omega
            have h4 : (m : Int) < (vs.length : Int) := by rw [ZV.out]; omega
            have h5 : (0 : Int) ≤ (m : Int) := by omega
            have HDE := Lib.hid (full_dec BY.out hmf)
            obtain ⟨b1, off1, v, hA1, hb1, hv, hc1⟩ := (rv5.next hbel2).at_ (i := m) (by rw [ZV.out]; omega)
            obtain ⟨p, Ap, cp, hp, hvp, op⟩ := (pv5.next hbel2).at_ (j := m) (by rw [List.length_map, List.length_range]; have := HK.out; omega)
            rw [hv] at hvp; injection hvp with hvp
            have hpe : p = l.take m := by
              rw [List.getElem?_map] at hp
              obtain ⟨i, hi, hy⟩ := Option.map_eq_some_iff.1 hp
              obtain ⟨hil, hii⟩ := List.getElem?_eq_some_iff.1 hi
              simp only [List.getElem_range] at hii
              rw [← hy, hii]
            have HPE := Lib.hid hpe
            have yp : Bytes p := by rw [hpe]; exact BY.out.take _
            have zp : p.length ≤ 1048576 := by rw [hpe, List.length_take]; omega
            subst hvp hA1
            have op1 := op.alloc (.cells #[.bool false] 4)
            have hT6 : Tabs (wr.alloc (.cells #[.bool false] 4)) := (hT5.next hbel2).next ((Below.refl _ _).alloc (Nat.le_refl _) _)
            have kp := op.len.2
            have lp := op.lies
            clear hv hp hpe op hmf
            go_wp2_with fail
            refine (decodeScript_any (ts := [false]) op1.rd yp hT6 kp lp (by omega) (RdB.one wr 4 false) (by simp)).mono ?_
            rintro e w6 ⟨A6, c6, A7, c7, r1, s1, hr1, hs1, rfl, o6, o7, l6⟩
            have l56 := bnext hbel2 (bnext ((Below.refl _ _).alloc (Nat.le_refl _) (.cells #[.bool false] 4)) l6)
            go_wp2_with fail
            refine (copied_any (rb5.next l56) (by omega)).mono ?_
            rintro e w7 ⟨A8, c8, b8, hb8, rfl, o8, l7⟩
            have yb8 : Bytes b8 := by rw [hb8.out]; exact BY.out
            have zb8 : b8.length ≤ 1048576 := by rw [hb8.out]; exact hl
            have o81 := o8.alloc (.cells #[.bool false] 4)
            have l57 := bnext l56 l7
            have hT7 : Tabs (w7.alloc (.cells #[.bool false] 4)) := (hT5.next l57).next ((Below.refl _ _).alloc (Nat.le_refl _) _)
            go_wp2_with fail
            refine (decodeScript_any (ts := [false]) o81.rd yb8 hT7 o8.len.2 o8.lies (by omega) (RdB.one w7 4 false) (by simp)).mono ?_
            rintro e w8 ⟨A9, c9, A10, c10, r2, s2, hr2, hs2, rfl, o9, o10, l8⟩
            have l68 := bnext l7 (bnext ((Below.refl _ _).alloc (Nat.le_refl _) (.cells #[.bool false] 4)) l8)
            have HQ1 : Hid (decide (r1 = r2) = true) := by
              show _ = _
              rw [hr1.out, hr2.out, hb8.out, HPE.out]
              show decide ([(dec1 (l.take m)).1] = [(dec1 l).1]) = true
              rw [HDE.out]; simp
            have HQ2 : Hid (decide (s1 = s2) = true) := by
              show _ = _
              rw [hs1.out, hs2.out, hb8.out, HPE.out]
              show decide ([((dec1 (l.take m)).2 : Int)] = [((dec1 l).2 : Int)]) = true
              rw [HDE.out]; simp
            have zr1 : r1.length ≤ 1 := by rw [hr1.out, List.length_map, script_len]; simp
            have zs1 : s1.length ≤ 1 := by rw [hs1.out, List.length_map, script_len]; simp
            have lw8 := bnext lw5 (bnext l56 l68)
            go_wp2_with fail
            refine (sameRunes_any (o6.next l68).rd o9.rd (by omega)).mono ?_
            rw [HQ1.out]
            rintro e w9 ⟨rfl, n9, rfl⟩
            go_wp2_with fail
            refine (sameSizes_any ((o7.next l68).rd.drewN n9) (o10.rd.drewN n9) (by omega)).mono ?_
            rw [HQ2.out]
            rintro e w10 ⟨rfl, n10, rfl⟩
            go_wp2
            go_ret
            exact ⟨rfl, bdrewN lw8 _⟩
end Go.Proofs.YtcbfbccmghdpgaaDoor
