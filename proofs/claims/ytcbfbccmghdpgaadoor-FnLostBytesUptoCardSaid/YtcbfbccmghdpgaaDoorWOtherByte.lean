/- FnOtherByte: the walk. -/
import Derived.Test.YtcbfbccmghdpgaaDoorPlainIdx
import Derived.Test.YtcbfbccmghdpgaaDoorBytes
import Derived.Test.YtcbfbccmghdpgaaDoorQuiet
set_option linter.unusedVariables false
namespace Go.Proofs.YtcbfbccmghdpgaaDoor
open Go.RowKit P

theorem sameRunes_at {A A' : Option Addr} {xs ys : List Int} {c c' n m : Nat} {W : World} (hx : Rd W .i32 A xs) (hy : Rd W .i32 A' ys) (hn : xs.length = n) (hm : ys.length = m) (hl : n ≤ 1048580) (h : xs = ys) (i : Nat) :
    Calls Tryd.prog 17 #[.slice A n c, .slice A' m c'] (W.drewN i) fun e w' => e = .returned (.bool true) ∧ ∃ m, w' = (W.drewN i).drewN m := by
  have h1 := sameRunes_n (n := n) (m := m) (c := c) (c' := c') (hx.drewN i) (hy.drewN i) hn hm (by omega)
  rw [h] at h1
  simpa using h1
theorem summed_at {A : Option Addr} {xs : List Int} {c : Nat} {W : World} (hx : Rd W .i64 A xs) (hi : ∀ x ∈ xs, -8 ≤ x ∧ x ≤ 1000000) (hl : xs.length ≤ 10000000000) (z : Int) (hz : xs.sum = z) (i : Nat) :
    Calls Tryd.prog 27 #[.slice A xs.length c] (W.drewN i) fun e w' => e = .returned (.int .i64 z) ∧ ∃ m, w' = (W.drewN i).drewN m := by
  subst hz
  exact (summed_any (hx.drewN i) hi hl).mono fun e w' h => ⟨h.1, 0, h.2.symm⟩

/-- a slice of the call's own, one of whose cells is written -/
theorem Own.store {w : World} {base : Nat} {e : TypeId} {k : IntKind} {A : Option Addr} {n c : Nat} {xs : List Int} (h : Own w base e k (.slice A n c) xs) {i : Nat} (hi : i < xs.length) :
    ∃ g, A = some ⟨g, 0, none⟩ ∧ base ≤ g ∧ g < w.heap.size ∧ w.frozen? ⟨g, i, none⟩ = false ∧ (∃ x, w.cell? ⟨g, i, none⟩ = some (.int k x)) ∧ ∀ y, Own (w.setCell ⟨g, i, none⟩ (.int k y)) base e k (.slice A n c) (xs.set i y) := by
  rcases h.2 with ⟨_, h0⟩ | ⟨g, cap, cur, hv, hg, hh, hle, hm, hsz, htk⟩
  · omega
  · injection hv with hA hn hc
    subst hA hn hc
    have hb : Blk w g e cur := hh
    have hci : cur[i]? = some (.int k xs[i]) := by
      have h1 := congrArg (fun l => l[i]?) htk
      simp only [List.getElem?_take, List.getElem?_map, List.getElem?_eq_getElem hi] at h1
      rw [if_pos (by omega)] at h1
      simpa using h1
    refine ⟨g, rfl, hg, hb.lt, hb.free i, ⟨_, by rw [hb.cell]; exact hci⟩, fun y => ?_⟩
    refine ⟨by simp, .inr ⟨g, c, cur.setIfInBounds i (.int k y), by simp, hg, hb.set i _, by simpa using hle, hm, by simpa using hsz, ?_⟩⟩
    rw [Array.toList_setIfInBounds, List.length_set, List.take_set, htk, List.map_set]

set_option maxRecDepth 100000 in
set_option maxHeartbeats 2000000 in
theorem otherByte_walk {A : Option Addr} {xs : List Int} {c : Nat} {kk ch : Int} {w : World} (hx : Rd w .i32 A xs) (hi : I32 xs) (hT : Tabs w) (hl : xs.length ≤ 1048576) (hch : 0 ≤ ch ∧ ch < 256) :
    Calls Tryd.prog 12 #[.slice A xs.length c, .int .i64 kk, .int .u8 ch] w fun e w' => e = .returned (.bool true) ∧ Below w.heap.size w w' := by
  obtain ⟨j32, hj32, _, hs32, _⟩ := info_parts info_i32
  have J32 := Lib.hid (And.intro hj32 hs32)
  have HCH := Lib.hid hch
  clear hj32 hs32 hch
  go_enter Tryd.func12, Tryd.ntmps12
  go_wp2_with fail
  refine (goodOnes_any hx (by omega)).mono ?_
  rintro e w1 ⟨A1, c1, g, hg, rfl, o1, l1⟩
  have zg : g.length ≤ 1048576 := by rw [hg.out]; have := filter_le xs; omega
  have ig := hi.good hg.out
  have gg : ∀ r ∈ g, good r = true := by rw [hg.out]; exact good_filter xs
  have GG := Lib.hid gg
  clear gg hx
  go_wp2_with fail
  refine (appendNil_any o1.rd ig (by omega)).mono ?_
  rintro e w2 ⟨A2, c2, b, hb, rfl, o2, l2⟩
  go_wp2_with fail
  refine (byteLens_any (o1.next l2).rd (by omega)).mono ?_
  rintro e w3 ⟨A3, c3, ls, hls, rfl, o3, l3⟩
  have zl : ls.length ≤ 1048576 := by rw [hls.out, List.length_map]; exact zg
  go_wp2_with fail
  refine (endsOf_any o3.rd (lens_bounds hls.out) (by omega)).mono ?_
  rintro e w4 ⟨A4, c4, en, hen, rfl, o4, l4⟩
  have hpl : en = places 0 g := by rw [hen.out, hls.out]; rfl
  have HPL := Lib.hid hpl
  have ze : en.length = g.length + 1 := by rw [hpl, places_length]
  have zb : b.length ≤ 4194304 := by rw [hb.out]; have := (encs_len g).2; omega
  have zgb : g.length ≤ b.length := by rw [hb.out]; exact (encs_len g).1
  have by_ : Bytes b := by rw [hb.out]; exact encs_bytes g
  have BY := Lib.hid by_
  have t1 : ((en.length : Int) != (g.length : Int) + 1) = false := by simp only [bne_eq_false_iff_eq]; omega
  have hlast : en[g.length]? = some ((b.length : Int)) := by rw [HPL.out, places_last 0 GG.out, hb.out]; simp
  obtain ⟨be, offe, ye, hAe, hbe, hye, hce⟩ := (o4.rd).at_ (i := en.length - 1) (by omega)
  have hye2 : ye = (b.length : Int) := by
    rw [show en.length - 1 = g.length by omega, hlast] at hye
    injection hye with hye; exact hye.symm
  subst hye2
  have ie : (1 : Int) ≤ (en.length : Int) := by omega
  have ie2 : en.length ≤ 1048577 := by omega
  have ZE := Lib.hid ze
  have t3 : ((b.length : Int) != (b.length : Int)) = false := by simp
  have l24 := bnext l3 l4
  have rg := (o1.next (bnext l2 l24)).rd
  have rb := (o2.next l24).rd
  have ren := o4.rd
  have kg := o1.len.2
  have l04 := bnext (bnext l1 l2) l24
  subst hAe
  have HB : Hid (b = encs g) := hb
  clear o1 o2 o3 o4 l1 l2 l3 l4 l24 hye hlast hpl by_ ze hls hen hb hg ig zl
  rcases (by omega : b.length = 0 ∨ 0 < b.length) with h0 | h0
  · have t4 : ((b.length : Int) == 0) = true := by simp only [beq_iff_eq]; omega
    clear h0
    go_wp2_with fail
    refine (decodeBytes_any (l := []) (A := none) (c := 0) (Rd.nil _ _ _) Bytes.nil (hT.next l04) (Nat.le_refl _) (by simp)).mono ?_
    rintro e w5 ⟨A5, c5, A6, c6, rs, ss, hrs, hss, rfl, o5, o6, l5⟩
    have hr0 : rs = [] := by rw [hrs.out]; rfl
    subst hr0
    clear hrs
    go_wp2
    go_ret
    exact ⟨rfl, bnext l04 l5⟩
  · have t4 : ((b.length : Int) == 0) = false := by simp only [beq_eq_false_iff_ne, ne_eq]; omega
    have h0' : (0 : Int) ≤ (b.length : Int) - 1 := by omega
    go_wp2_with fail
    refine (placeIn_any kk ((b.length : Int) - 1) (by omega) (by omega) _).mono ?_
    rintro e w0 ⟨at_, hat, rfl, rfl⟩
    have hat' : at_ < b.length := by omega
    obtain ⟨i, hi1, hi2, hi3⟩ := other_facts (c := ch) GG.out HB.out HPL.out HCH.out hat'
    have HI2 := Lib.hid hi2
    have HI3 := Lib.hid hi3
    clear hi2 hi3 hat
    go_wp2
    go_loopw [13] (fun v13 wr => ∃ k : Nat, k ≤ i ∧ v13 = .int .i64 k ∧ Below w4.heap.size w4 wr) (fun v13 _ => i - (intOf v13).toNat)
    case atStart => exact ⟨0, Nat.zero_le _, rfl, Below.refl _ _⟩
    case round =>
      obtain ⟨k, hk, rfl, hbel⟩ := hrel
      obtain ⟨b1, off1, y, hA1, hb1, hy, hc1⟩ := (ren.next hbel).at_ (i := k + 1) (by rw [ZE.out]; omega)
      injection hA1 with hA1
      injection hA1 with e1 e2
      subst e1 e2
      have hyi := HI2.out k y (by omega) hy
      have h1 : (k : Int) + 1 < (en.length : Int) := by rw [ZE.out]; omega
      have h2 : (0 : Int) ≤ (k : Int) + 1 := by omega
      clear hy
      by_cases hlt : k < i
      · have h3 : y ≤ (at_ : Int) := hyi.2 hlt
        clear hyi
        go_wp2
        go_roundw
        case rel => exact ⟨k + 1, by omega, by go_num, hbel⟩
        case measure => simp [intOf]; omega
      · have hki : k = i := by omega
        subst hki
        have h3 : ¬ y ≤ (at_ : Int) := fun h => hlt (hyi.1 h)
        clear hyi hlt
        have rb1 := rb.next hbel
        go_wp2_with fail
        refine (copied_any rb1 (by omega)).mono ?_
        rintro e w5 ⟨A5, c5, sp, hsp, rfl, o5, l5⟩
        have zsp : Hid (sp.length = b.length) := by show _ = _; rw [hsp.out]
        obtain ⟨gg, hA5, hgg, hglt, hfz, ⟨x5, hc5⟩, hset⟩ := o5.store (i := at_) (by rw [zsp.out]; exact hat')
        have o6 := hset ch
        subst hA5
        have hsl : (at_ : Int) < (sp.length : Int) := by rw [zsp.out]; omega
        have bw : Below wr.heap.size wr (w5.setCell ⟨gg, at_, none⟩ (.int .u8 ch)) := l5.setCell hgg _
        have zset : Hid ((sp.set at_ ch).length = b.length) := by show _ = _; rw [List.length_set, zsp.out]
        have yset : Bytes (sp.set at_ ch) := fun x hx => by
          rcases List.mem_or_eq_of_mem_set hx with e | e
          · rw [hsp.out] at e; exact BY.out x e
          · rw [e]; exact HCH.out
        have k5 := o5.len.2
        have HSP := Lib.hid (show sp.set at_ ch = b.set at_ ch by rw [hsp.out])
        have lsp : (sp.set at_ ch).length = sp.length := List.length_set
        have LSP := Lib.hid lsp
        have YS := Lib.hid yset
        clear o5 hset hsp yset lsp l5
        go_wp2_with fail
        refine (decodeBytes_m o6.rd LSP.out YS.out (hT.next (bnext (bnext l04 hbel) bw)) (by rw [LSP.out]; exact k5) (by rw [zset.out]; omega)).mono ?_
        rintro e w6 ⟨A6, c6, A7, c7, rs, ss, hrs, hss, rfl, o7, o8, l6⟩
        obtain ⟨f1, f2, f3, f4⟩ := HI3.out rs (by rw [hrs.out, HSP.out])
        have F3 := Lib.hid f3
        have F4 := Lib.hid f4
        have zss : ss.length = rs.length := by rw [hss.out, hrs.out, sizes8_len, runes8_len]
        have t5 : ((ss.length : Int) != (rs.length : Int)) = false := by simp only [bne_eq_false_iff_eq]; omega
        have ZSS := Lib.hid zss
        have hsum : ss.sum = (b.length : Int) := by rw [hss.out, sizes8_sum YS.out, zset.out]
        have k7 := o7.len.2
        have l16 := bnext bw l6
        have rg6 := rg.next (bnext hbel l16)
        have C1 := Lib.hid (sameRunes_at (c := c6) (c' := c1) (n := k) (m := k) ((o7.rd).take k) (rg6.take k) (by rw [List.length_take]; omega) (by rw [List.length_take]; omega) (by omega) F3.out)
        have C2 := Lib.hid (sameRunes_at (c := c6 - (rs.length - (g.length - (k + 1)))) (c' := c1 - (k + 1)) (n := rs.length - (rs.length - (g.length - (k + 1)))) (m := g.length - (k + 1)) ((o7.rd).drop c6 (rs.length - (g.length - (k + 1))) k7) (rg6.drop c1 (k + 1) kg) (by rw [List.length_drop]) (by rw [List.length_drop]) (by omega) F4.out)
        have C3 := Lib.hid (summed_at (c := c7) o8.rd (sizes8_eight YS.out hss.out) (by omega) _ hsum)
        have q1 := fun W => run_cut_h (P := Tryd.prog) (w := W) 22 21 Tryd.underlying22 j32 J32.out.1 A6 rs.length c6 k (k : Int) rfl (by omega)
        have q2 := fun W => run_cut_h (P := Tryd.prog) (w := W) 22 21 Tryd.underlying22 j32 J32.out.1 A1 g.length c1 k (k : Int) rfl (by omega)
        have q3 := fun W => run_cut_l (P := Tryd.prog) (w := W) 22 21 Tryd.underlying22 j32 J32.out.1 J32.out.2 A6 rs.length c6 (rs.length - (g.length - (k + 1))) ((rs.length : Int) - ((g.length : Int) - (k : Int) - 1)) (by omega) (by omega)
        have q4 := fun W => run_cut_l (P := Tryd.prog) (w := W) 22 21 Tryd.underlying22 j32 J32.out.1 J32.out.2 A1 g.length c1 (k + 1) ((k : Int) + 1) (by omega) (by omega)
        have v1 : IntKind.i64.wrap ((rs.length : Int) - ((g.length : Int) - (k : Int) - 1)) = (rs.length : Int) - ((g.length : Int) - (k : Int) - 1) := IntWalk.i64_in _ (by omega)
        have v2 : IntKind.i64.wrap ((k : Int) + 1) = (k : Int) + 1 := IntWalk.i64_in _ (by omega)
        have l06 := bnext l04 (bnext hbel l16)
        clear o6 o7 o8 l6 bw l16 f3 f4 zss hsum rg6 hrs hss
        go_wp2
        go_quiet (first
          | (go_at_call 17; first | (with_reducible exact quiet_at (C1.out _)) | (with_reducible exact quiet_at (C2.out _)))
          | (go_at_call 27; with_reducible exact quiet_at (C3.out _)))
        go_wp2
        go_ret
        exact ⟨rfl, bdrewN l06 _⟩
end Go.Proofs.YtcbfbccmghdpgaaDoor
