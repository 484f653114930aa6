/- FnSortedAlike: the walk. -/
import Derived.Test.YtlbdhfpakajdaaaPlainSorted
import Derived.Test.YtlbdhfpakajdaaaEncEach
import Derived.Test.YtlbdhfpakajdaaaStr
import Derived.Test.YtlbdhfpakajdaaaStep2
import Derived.Test.YtlbdhfpakajdaaaWGoods
import Derived.Deep.CutBlock
set_option linter.unusedVariables false
namespace Go.Proofs.Ytlbdhfpakajdaaa
open Go.RowKit P

/-- a slice of the call's own, two of whose cells are written -/
theorem OwnV.two {w : World} {base : Nat} {e : TypeId} {A : Option Addr} {n c : Nat} {cs : List Value} (h : OwnV w base e (.slice A n c) cs) {i j : Nat} {u v : Value} (hi : cs[i]? = some u) (hj : cs[j]? = some v) :
    ∃ g, A = some ⟨g, 0, none⟩ ∧ base ≤ g ∧ g < w.heap.size ∧ (∃ cur, Blk w g e cur) ∧ w.cell? ⟨g, i, none⟩ = some u ∧ w.cell? ⟨g, j, none⟩ = some v ∧ w.frozen? ⟨g, i, none⟩ = false ∧
      ∀ y z, (w.setCell ⟨g, i, none⟩ y).frozen? ⟨g, j, none⟩ = false ∧ (∃ q, (w.setCell ⟨g, i, none⟩ y).cell? ⟨g, j, none⟩ = some q) ∧
        OwnV ((w.setCell ⟨g, i, none⟩ y).setCell ⟨g, j, none⟩ z) base e (.slice A n c) ((cs.set i y).set j z) := by
  have hil := (List.getElem?_eq_some_iff.1 hi).1
  have hjl := (List.getElem?_eq_some_iff.1 hj).1
  rcases h.2 with ⟨_, h0⟩ | ⟨g, cap, cur, hv, hg, hh, hle, hm, hsz, htk⟩
  · omega
  · injection hv with hA hn hc
    subst hA hn hc
    have hb : Blk w g e cur := hh
    have hat : ∀ (q : Nat) (x : Value), cs[q]? = some x → cur[q]? = some x := fun q x hq => by
      have hql := (List.getElem?_eq_some_iff.1 hq).1
      rw [← htk, List.getElem?_take_of_lt (by omega)] at hq
      simpa using hq
    refine ⟨g, rfl, hg, hb.lt, ⟨cur, hb⟩, by rw [hb.cell]; exact hat i u hi, by rw [hb.cell]; exact hat j v hj, hb.free i, fun y z => ⟨(hb.set i y).free j, (hb.set i y).some_ (by simp; omega), ?_⟩⟩
    refine ⟨by simp, .inr ⟨g, c, (cur.setIfInBounds i y).setIfInBounds j z, by simp, hg, (hb.set i y).set j z, by simpa using hle, hm, by simpa using hsz, ?_⟩⟩
    rw [Array.toList_setIfInBounds, Array.toList_setIfInBounds, List.length_set, List.length_set, List.take_set, List.take_set, htk]
/-- slices of another element type are as they were -/
theorem OwnV.sets {w : World} {base g : Nat} {e e2 : TypeId} {u : Value} {cs : List Value} {cur : Array Value} (h : OwnV w base e2 u cs) (hb : Blk w g e cur) (hne : e2 ≠ e) (i j : Nat) (y z : Value) :
    OwnV ((w.setCell ⟨g, i, none⟩ y).setCell ⟨g, j, none⟩ z) base e2 u cs := by
  refine World.ownsRow.kept h (row := some g) ⟨rfl, rfl, rfl, by simp [World.setCell], fun q _ hq => ?_⟩ ?_
  · have hne2 : q ≠ g := fun e => hq (by rw [e])
    rw [Below.heap_setCell _ _ _ _ hne2, Below.heap_setCell _ _ _ _ hne2]
  · rcases h.2 with ⟨rfl, _⟩ | ⟨g2, _, _, rfl, _, h2, _⟩
    · exact .inl rfl
    · refine .inr fun h => ?_
      simp only [Value.ownBlock, Option.some.injEq] at h
      subst h
      have h3 : w.heap[g2]? = some (.cells cur e (0, 0)) := hb
      rw [h3] at h2
      injection h2 with h2
      injection h2 with _ h2
      exact hne h2.symm
theorem PcsO.sets {w : World} {base g : Nat} {e : TypeId} {vs : List Value} {ls : List (List Int)} {cur : Array Value} (h : PcsO w base vs ls) (hb : Blk w g e cur) (hne : (5 : TypeId) ≠ e) (i j : Nat) (y z : Value) :
    PcsO ((w.setCell ⟨g, i, none⟩ y).setCell ⟨g, j, none⟩ z) base vs ls :=
  ⟨h.1, fun q l hq => by obtain ⟨A, c, e1, o⟩ := h.2 q l hq; exact ⟨A, c, e1, (o.v.sets hb hne i j y z).ints⟩⟩
theorem PcsO.put {w : World} {base : Nat} {vs : List Value} {ls : List (List Int)} {A : Option Addr} {c : Nat} {l : List Int} (h : PcsO w base vs ls) (ho : Own w base 5 .u8 (.slice A l.length c) l) (i : Nat) : PcsO w base (vs.set i (.slice A l.length c)) (ls.set i l) := by
  refine ⟨by simp [h.1], fun q m hq => ?_⟩
  rw [List.getElem?_set] at hq
  by_cases hiq : i = q
  · subst hiq
    rw [if_pos rfl] at hq
    split at hq
    · rename_i hlt
      injection hq with hq
      subst hq
      exact ⟨A, c, by rw [List.getElem?_set, if_pos rfl, if_pos (by rw [h.1]; exact hlt)], ho⟩
    · cases hq
  · rw [if_neg hiq] at hq
    obtain ⟨A', c', e1, o⟩ := h.2 q m hq
    exact ⟨A', c', by rw [List.getElem?_set, if_neg hiq]; exact e1, o⟩
theorem encodeEach_m {A : Option Addr} {rs : List Int} {c n : Nat} {w : World} (hr : Rd w .i32 A rs) (hn : rs.length = n) (hi : I32 rs) (hl : rs.length ≤ 1048576) :
    Calls Try.prog 8 #[.slice A n c] w (MadeP w (rs.map enc)) := by
  subst hn; exact encodeEach_any hr hi hl
theorem below_sets {B g : Nat} {a w : World} (h : Below B a w) (hg : B ≤ g) (i j : Nat) (y z : Value) : Below B a ((w.setCell ⟨g, i, none⟩ y).setCell ⟨g, j, none⟩ z) :=
  (h.setCell hg y).setCell hg z
theorem map_two (x : List Int) (i j : Nat) (a b : Int) : ((x.map enc).set i (enc a)).set j (enc b) = ((x.set i a).set j b).map enc := by
  rw [List.map_set, List.map_set]

set_option maxRecDepth 100000 in
set_option maxHeartbeats 8000000 in
theorem sortedAlike_walk {A : Option Addr} {xs : List Int} {c : Nat} {w : World} (hx : Rd w .i32 A xs) (hi : I32 xs) (hl : xs.length ≤ 1048576) :
    Calls Try.prog 3 #[.slice A xs.length c] w fun e w' => e = .returned (.bool true) ∧ Below w.heap.size w w' := by
  have N1 : Hid ((26 : TypeId) ≠ 21) := (by decide : (26 : TypeId) ≠ 21)
  have N2 : Hid ((5 : TypeId) ≠ 21) := (by decide : (5 : TypeId) ≠ 21)
  have N3 : Hid ((21 : TypeId) ≠ 26) := (by decide : (21 : TypeId) ≠ 26)
  have N4 : Hid ((5 : TypeId) ≠ 26) := (by decide : (5 : TypeId) ≠ 26)
  go_enter Try.func3, Try.ntmps3
  go_wp2_with fail
  refine (goodOnes_any hx (by omega)).mono ?_
  rintro e w1 ⟨A1, c1, g, hg, rfl, o1, l1⟩
  have ig := hi.good hg.out
  have zg : g.length ≤ 1048576 := by rw [hg.out]; have := filter_le xs; omega
  have GG : Hid (∀ r ∈ g, good r = true) := fun r hr => by rw [hg.out] at hr; exact (List.mem_filter.1 hr).2
  go_wp2_with fail
  refine (encodeEach_any o1.rd ig zg).mono ?_
  rintro e w2 ⟨A2, c2, v0, rfl, ov, pv, l2⟩
  have ZV : Hid (v0.length = g.length) := by show _ = _; rw [pv.1, List.length_map]
  have t1 : ((v0.length : Int) != (g.length : Int)) = false := by simp only [bne_eq_false_iff_eq]; rw [ZV.out]
  have l12 := bnext l1 l2
  have og := o1.next l2
  obtain ⟨n, hn⟩ : ∃ n, g.length = n := ⟨_, rfl⟩
  obtain ⟨m, hm⟩ : ∃ m, v0.length = m := ⟨_, rfl⟩
  have ov' := ov.lower l1.size
  have pv' := pv.lower l1.size
  rw [hn] at og zg t1 ZV
  rw [hm] at ov' t1 ZV
  rw [hn, hm]
  have HN := Lib.hid hn
  have HMN : Hid (m = n) := ZV
  have zm : m ≤ 1048576 := by rw [HMN.out]; exact zg
  clear hn hm ov pv o1 l1 l2 hx hg ZV
  go_wp2
  go_loopw [23] (fun v23 wr => ∃ (i : Nat) (x : List Int) (vs : List Value), i ≤ n ∧ v23 = .int .i64 i ∧ Hid (x.length = n) ∧ Hid (∀ r ∈ x, good r = true) ∧ Own wr w.heap.size 21 .i32 (.slice A1 n c1) x ∧ Hid (vs.length = n) ∧ OwnV wr w.heap.size 26 (.slice A2 m c2) vs ∧ PcsO wr w.heap.size vs (x.map enc) ∧ Below w.heap.size w wr)
    (fun v23 _ => n - (intOf v23).toNat)
  case atStart => exact ⟨0, g, v0, Nat.zero_le _, rfl, HN, GG, og, by show _ = _; rw [pv'.1, List.length_map]; exact HN.out, ov', pv', l12⟩
  case round =>
    clear og ov' pv' l12 ig GG HN t1
    obtain ⟨i, x, vs, hin, rfl, ZX, GX, ox, ZS, ow, px, hbel⟩ := hrel
    by_cases hlt : i < n
    · have h1 : (i : Int) < (n : Int) := by omega
      obtain ⟨T, hT⟩ : ∃ T, bub x i = T := ⟨_, rfl⟩
      have HT := Lib.hid hT
      have HTL : Hid (T.length = n) := by show _ = _; rw [← hT, bub_len, ZX.out]
      clear hT
      go_wp2
      go_loopw [6] (fun v6 wr => ∃ (k : Nat) (y : List Int), k ≤ i ∧ v6 = .int .i64 k ∧ Hid (y.length = n) ∧ Hid (∀ r ∈ y, good r = true) ∧ Hid (bub y k = T) ∧ Own wr w.heap.size 21 .i32 (.slice A1 n c1) y ∧ OwnV wr w.heap.size 26 (.slice A2 m c2) vs ∧ PcsO wr w.heap.size vs (x.map enc) ∧ Below w.heap.size w wr)
        (fun v6 _ => (intOf v6).toNat)
      case atStart => exact ⟨i, x, Nat.le_refl _, rfl, ZX, GX, HT, ox, ow, px, hbel⟩
      case round =>
        clear ox ow px hbel
        obtain ⟨k, y, hki, rfl, ZY, GY, HB, oy, ow, px, hbel⟩ := hrel
        have hkn : k < n := by omega
        obtain ⟨a, ha⟩ : ∃ a, y[k]? = some a := ⟨_, List.getElem?_eq_getElem (by rw [ZY.out]; exact hkn)⟩
        obtain ⟨b, hb⟩ : ∃ b, y[k - 1]? = some b := ⟨_, List.getElem?_eq_getElem (by rw [ZY.out]; omega)⟩
        have HA := Lib.hid ha
        have HBB := Lib.hid hb
        obtain ⟨gb, hA1, hgb, hgl, ⟨cur, hblk⟩, hc1, hc2, hfz, hset⟩ := oy.v.two (i := k) (j := k - 1) (u := .int .i32 a) (v := .int .i32 b) (by rw [List.getElem?_map, ha]; rfl) (by rw [List.getElem?_map, hb]; rfl)
        subst hA1
        have hkz : (k : Int) < (n : Int) := by omega
        clear ha hb
        go_upto_region 9 with fail
        go_cut [40] from 27 to 40 (fun c wx => c = .bool (decide (0 < k ∧ a < b)) ∧ ∃ q, wx = wr.drewN q)
        case first =>
          clear hset hblk hfz oy ow px hbel HB GY ZY
          by_cases hk0 : 0 < k
          · have hk0z : (0 : Int) < (k : Int) := by omega
            have hk1z : (k : Int) - 1 < (n : Int) := by omega
            by_cases hab : a < b
            · go_quiet (fail)
              go_wp2
              go_meet
              exact ⟨congrArg Value.bool (decide_eq_true (p := 0 < k ∧ a < b) ⟨hk0, hab⟩).symm, _, rfl⟩
            · go_quiet (fail)
              go_wp2
              go_meet
              exact ⟨congrArg Value.bool (decide_eq_false (p := 0 < k ∧ a < b) (by omega)).symm, _, rfl⟩
          · have hk0z : ¬ (0 : Int) < (k : Int) := by omega
            go_quiet (fail)
            go_wp2
            go_meet
            exact ⟨congrArg Value.bool (decide_eq_false (p := 0 < k ∧ a < b) (by omega)).symm, _, rfl⟩
        case rest =>
          obtain ⟨rfl, q, rfl⟩ := hcut
          have oy1 := oy.drewN q
          have ow1 := ow.drewN q
          have px1 : PcsO (wr.drewN q) w.heap.size vs (x.map enc) := px
          have hbel1 := bdrewN hbel q
          clear oy ow px hbel hset hc1 hc2 hfz hblk hgb hgl
          generalize wr.drewN q = wz at oy1 ow1 px1 hbel1 ⊢
          by_cases hc : 0 < k ∧ a < b
          · rw [show decide (0 < k ∧ a < b) = true from decide_eq_true hc]
            obtain ⟨hk0, hab⟩ := hc
            have hk0z : (0 : Int) < (k : Int) := by omega
            have hk1z : (k : Int) - 1 < (n : Int) := by omega
            have hk2z : (0 : Int) ≤ (k : Int) - 1 := by omega
            obtain ⟨hy1, hy2⟩ := bub_yes hk0 HA.out HBB.out hab
            have HB2 : Hid (bub ((y.set k b).set (k - 1) a) (k - 1) = T) := by show _ = _; rw [← hy1]; exact HB.out
            have GY2 : Hid (∀ r ∈ (y.set k b).set (k - 1) a, good r = true) := fun r hr => GY.out r (mem_swp (k := k) (List.mem_of_getElem? HA.out) (List.mem_of_getElem? HBB.out) k (k - 1) r hr)
            have ZY2 : Hid (((y.set k b).set (k - 1) a).length = n) := by show _ = _; rw [List.length_set, List.length_set]; exact ZY.out
            obtain ⟨gb', hA1, hgb, hgl, ⟨cur, hblk⟩, hc1, hc2, hfz, hset⟩ := oy1.v.two (i := k) (j := k - 1) (u := .int .i32 a) (v := .int .i32 b) (by rw [List.getElem?_map, HA.out]; rfl) (by rw [List.getElem?_map, HBB.out]; rfl)
            injection hA1 with hA1; injection hA1 with hA1; subst hA1
            obtain ⟨f2, ⟨q2, s2⟩, on⟩ := hset (.int .i32 b) (.int .i32 a)
            have on2 : Own ((wz.setCell ⟨gb, k, none⟩ (.int .i32 b)).setCell ⟨gb, k - 1, none⟩ (.int .i32 a)) w.heap.size 21 .i32 (.slice (some ⟨gb, 0, none⟩) n c1) ((y.set k b).set (k - 1) a) := by
              rw [← List.map_set, ← List.map_set] at on
              exact on.ints
            have ow2 := ow1.sets hblk N1.out k (k - 1) (.int .i32 b) (.int .i32 a)
            have px2 := px1.sets hblk N2.out k (k - 1) (.int .i32 b) (.int .i32 a)
            have hbel2 := below_sets hbel1 hgb k (k - 1) (.int .i32 b) (.int .i32 a)
            clear hset hblk oy1 ow1 px1 hbel1 HB GY ZY hy1 hy2 on hab
            go_wp2
            go_roundw
            case rel => exact ⟨k - 1, (y.set k b).set (k - 1) a, by omega, by go_num, ZY2, GY2, HB2, on2, ow2, px2, hbel2⟩
            case measure => simp [intOf]; omega
          · rw [show decide (0 < k ∧ a < b) = false from decide_eq_false hc]
            have hyT : bub y k = y := bub_no (by
              by_cases hk0 : k = 0
              · exact .inl hk0
              · exact .inr ⟨a, b, HA.out, HBB.out, fun h => hc ⟨by omega, h⟩⟩)
            have HYT : Hid (y = T) := by show _ = _; rw [← HB.out, hyT]
            clear HB hyT hc
            have GT : Hid (∀ r ∈ T, good r = true) := fun r hr => by rw [← HYT.out] at hr; exact GY.out r hr
            rw [HYT.out] at oy1
            clear HYT GY ZY HA HBB
            go_wp2
            go_loopw [8] (fun v8 wr => ∃ (k : Nat) (y : List Int) (vs : List Value), k ≤ i ∧ v8 = .int .i64 k ∧ Hid (y.length = n) ∧ Hid (∀ r ∈ y, good r = true) ∧ Hid (bub y k = T) ∧ Own wr w.heap.size 21 .i32 (.slice (some ⟨gb, 0, none⟩) n c1) T ∧ Hid (vs.length = n) ∧ OwnV wr w.heap.size 26 (.slice A2 m c2) vs ∧ PcsO wr w.heap.size vs (y.map enc) ∧ Below w.heap.size w wr)
              (fun v8 _ => (intOf v8).toNat)
            case atStart => exact ⟨i, x, vs, Nat.le_refl _, rfl, ZX, GX, HT, oy1, ZS, ow1, px1, hbel1⟩
            case round =>
              clear oy1 ow1 px1 hbel1
              obtain ⟨k, y, vs, hki, rfl, ZY, GY, HB, oy, ZW, ow, px, hbel⟩ := hrel
              have hkn : k < n := by omega
              obtain ⟨a, ha⟩ : ∃ a, y[k]? = some a := ⟨_, List.getElem?_eq_getElem (by rw [ZY.out]; exact hkn)⟩
              obtain ⟨b, hb⟩ : ∃ b, y[k - 1]? = some b := ⟨_, List.getElem?_eq_getElem (by rw [ZY.out]; omega)⟩
              have HA := Lib.hid ha
              have HBB := Lib.hid hb
              obtain ⟨Aa, ca, hva, oa⟩ := px.2 k (enc a) (by rw [List.getElem?_map, ha]; rfl)
              obtain ⟨Ab, cb, hvb, ob⟩ := px.2 (k - 1) (enc b) (by rw [List.getElem?_map, hb]; rfl)
              have HVA := Lib.hid hva
              have HVB := Lib.hid hvb
              obtain ⟨pb, hA2, hpb, hpl, ⟨cur, hblk⟩, hc1, hc2, hfz, hset⟩ := ow.two (i := k) (j := k - 1) hva hvb
              subst hA2
              have hga := GY.out a (List.mem_of_getElem? ha)
              have hgb2 := GY.out b (List.mem_of_getElem? hb)
              have hless := less_enc hga hgb2
              have st1 := fun q => run_str (c := ca) (oa.rd.drewN q) rfl
              have st2 := fun q => run_str (c := cb) (ob.rd.drewN q) rfl
              obtain ⟨s1, hs1⟩ : ∃ s, strOfNums (enc a) = s := ⟨_, rfl⟩
              obtain ⟨s2, hs2⟩ : ∃ s, strOfNums (enc b) = s := ⟨_, rfl⟩
              rw [hs1] at st1 hless
              rw [hs2] at st2 hless
              obtain ⟨na, hna⟩ : ∃ q, (enc a).length = q := ⟨_, rfl⟩
              obtain ⟨nb, hnb⟩ : ∃ q, (enc b).length = q := ⟨_, rfl⟩
              rw [hna] at hc1 st1
              rw [hnb] at hc2 st2
              have HNA := Lib.hid hna
              have HNB := Lib.hid hnb
              have hkz : (k : Int) < (m : Int) := by rw [HMN.out]; omega
              clear ha hb hva hvb hs1 hs2 hna hnb hga hgb2
              go_upto_region 15 with fail
              go_cut [76] from 61 to 76 (fun c wx => c = .bool (decide (0 < k ∧ a < b)) ∧ ∃ q, wx = wr.drewN q)
              case first =>
                clear hset hblk hfz oy ow px hbel HB GY ZY oa ob
                by_cases hk0 : 0 < k
                · have hk0z : (0 : Int) < (k : Int) := by omega
                  have hk1z : (k : Int) - 1 < (m : Int) := by omega
                  by_cases hab : a < b
                  · rw [show decide (a < b) = true from decide_eq_true hab] at hless
                    go_quiet (fail)
                    go_wp2
                    go_meet
                    exact ⟨congrArg Value.bool (decide_eq_true (p := 0 < k ∧ a < b) (by omega)).symm, _, rfl⟩
                  · rw [show decide (a < b) = false from decide_eq_false hab] at hless
                    go_quiet (fail)
                    go_wp2
                    go_meet
                    exact ⟨congrArg Value.bool (decide_eq_false (p := 0 < k ∧ a < b) (by omega)).symm, _, rfl⟩
                · have hk0z : ¬ (0 : Int) < (k : Int) := by omega
                  go_quiet (fail)
                  go_wp2
                  go_meet
                  exact ⟨congrArg Value.bool (decide_eq_false (p := 0 < k ∧ a < b) (by omega)).symm, _, rfl⟩
              case rest =>
                obtain ⟨rfl, q, rfl⟩ := hcut
                have oy1 := oy.drewN q
                have ow1 := ow.drewN q
                have oa1 := oa.drewN q
                have ob1 := ob.drewN q
                have px1 : PcsO (wr.drewN q) w.heap.size vs (y.map enc) := px
                have hbel1 := bdrewN hbel q
                clear oy ow px hbel hset hc1 hc2 hfz hblk hpb hpl st1 st2 hless oa ob
                generalize wr.drewN q = wz at oy1 ow1 px1 hbel1 oa1 ob1 ⊢
                by_cases hc : 0 < k ∧ a < b
                · rw [show decide (0 < k ∧ a < b) = true from decide_eq_true hc]
                  obtain ⟨hk0, hab⟩ := hc
                  have hk0z : (0 : Int) < (k : Int) := by omega
                  have hk1z : (k : Int) - 1 < (m : Int) := by omega
                  have hk2z : (0 : Int) ≤ (k : Int) - 1 := by omega
                  obtain ⟨hy1, hy2⟩ := bub_yes hk0 HA.out HBB.out hab
                  have HB2 : Hid (bub ((y.set k b).set (k - 1) a) (k - 1) = T) := by show _ = _; rw [← hy1]; exact HB.out
                  have GY2 : Hid (∀ r ∈ (y.set k b).set (k - 1) a, good r = true) := fun r hr => GY.out r (mem_swp (k := k) (List.mem_of_getElem? HA.out) (List.mem_of_getElem? HBB.out) k (k - 1) r hr)
                  have ZY2 : Hid (((y.set k b).set (k - 1) a).length = n) := by show _ = _; rw [List.length_set, List.length_set]; exact ZY.out
                  obtain ⟨pb', hA2, hpb, hpl, ⟨cur, hblk⟩, hc1, hc2, hfz, hset⟩ := ow1.two (i := k) (j := k - 1) HVA.out HVB.out
                  injection hA2 with hA2; injection hA2 with hA2; subst hA2
                  obtain ⟨f2, ⟨q2, s2'⟩, on⟩ := hset (.slice Ab (enc b).length cb) (.slice Aa (enc a).length ca)
                  have px2 := (((px1.put ob1 k).put oa1 (k - 1))).sets hblk N4.out k (k - 1) (.slice Ab (enc b).length cb) (.slice Aa (enc a).length ca)
                  rw [map_two] at px2
                  have oy2 := (oy1.v.sets hblk N3.out k (k - 1) (.slice Ab (enc b).length cb) (.slice Aa (enc a).length ca)).ints
                  have hbel2 := below_sets hbel1 hpb k (k - 1) (.slice Ab (enc b).length cb) (.slice Aa (enc a).length ca)
                  have ZW2 : Hid (((vs.set k (.slice Ab (enc b).length cb)).set (k - 1) (.slice Aa (enc a).length ca)).length = n) := by show _ = _; rw [List.length_set, List.length_set]; exact ZW.out
                  rw [HNA.out] at hc1 on px2 oy2 hbel2 ZW2
                  rw [HNB.out] at hc2 f2 s2' on px2 oy2 hbel2 ZW2
                  clear hset hblk oy1 ow1 px1 hbel1 HB GY ZY hy1 hy2 hab oa1 ob1
                  go_wp2
                  go_roundw
                  case rel => exact ⟨k - 1, (y.set k b).set (k - 1) a, _, by omega, by go_num, ZY2, GY2, HB2, oy2, ZW2, on, px2, hbel2⟩
                  case measure => simp [intOf]; omega
                · rw [show decide (0 < k ∧ a < b) = false from decide_eq_false hc]
                  have hyT : bub y k = y := bub_no (by
                    by_cases hk0 : k = 0
                    · exact .inl hk0
                    · exact .inr ⟨a, b, HA.out, HBB.out, fun h => hc ⟨by omega, h⟩⟩)
                  have HYT : Hid (y = T) := by show _ = _; rw [← HB.out, hyT]
                  rw [HYT.out] at px1
                  clear HB hyT hc oa1 ob1
                  go_wp2
                  go_roundw
                  case rel => exact ⟨i + 1, T, vs, by omega, by go_num, HTL, GT, oy1, ZW, ow1, px1, hbel1⟩
                  case measure => simp [intOf]; omega
    · have h1 : ¬ (i : Int) < (n : Int) := by omega
      have ix : I32 x := fun r hr => by have := good_iff.1 (GX.out r hr); omega
      have zx : x.length ≤ 1048576 := by rw [ZX.out]; exact zg
      have rx := ox.rd
      go_wp2_with fail
      refine (encodeEach_m rx ZX.out ix zx).mono ?_
      rintro e w3 ⟨A3, c3, va, rfl, oa, pa, l3⟩
      have ZA : Hid (va.length = n) := by show _ = _; rw [pa.1, List.length_map]; exact ZX.out
      have t1 : ((va.length : Int) != (m : Int)) = false := by simp only [bne_eq_false_iff_eq]; rw [ZA.out, HMN.out]
      have l03 := bnext hbel l3
      have rva := oa.rdv
      have rvs := (ow.next l3).rdv
      have pvs := px.next l3
      clear ox ow px hbel l3 oa rx ix zx
      go_wp2
      go_loopw [106] (fun v106 wr => ∃ k : Nat, k ≤ va.length ∧ v106 = .int .i64 k ∧ Below w3.heap.size w3 wr) (fun v106 _ => va.length - (intOf v106).toNat)
      case atStart => exact ⟨0, Nat.zero_le _, rfl, Below.refl _ _⟩
      case round =>
        obtain ⟨k, hk, rfl, hbel2⟩ := hrel
        by_cases hlt2 : k < va.length
        · have h2 : (k : Int) < (va.length : Int) := by omega
          have h3 : (k : Int) < (m : Int) := by rw [HMN.out, ← ZA.out]; omega
          obtain ⟨a, ha⟩ : ∃ a, x[k]? = some a := ⟨_, List.getElem?_eq_getElem (by rw [ZX.out, ← ZA.out]; exact hlt2)⟩
          obtain ⟨Aa, ca, hva, oa⟩ := (pa.next hbel2).2 k (enc a) (by rw [List.getElem?_map, ha]; rfl)
          obtain ⟨Ab, cb, hvb, ob⟩ := (pvs.next hbel2).2 k (enc a) (by rw [List.getElem?_map, ha]; rfl)
          obtain ⟨b1, off1, v1, hA1, hb1, hv1, hc1⟩ := (rva.next hbel2).at_ hlt2
          obtain ⟨b2, off2, v2, hA2, hb2, hv2, hc2⟩ := (rvs.next hbel2).at_ (i := k) (by rw [ZS.out, ← ZA.out]; exact hlt2)
          rw [hva] at hv1; injection hv1 with hv1
          rw [hvb] at hv2; injection hv2 with hv2
          subst hv1 hv2 hA1 hA2
          have el := (enc_len a).2
          have C1 : Hid (∀ j, Calls Try.prog 9 #[.slice Aa (enc a).length ca, .slice Ab (enc a).length cb] (wr.drewN j) fun e w' => e = .returned (.bool true) ∧ ∃ q, w' = (wr.drewN j).drewN q) := fun j => by
            have h := sameBytes_any (c := ca) (c' := cb) (oa.rd.drewN j) (ob.rd.drewN j) (by omega)
            rw [show decide (enc a = enc a) = true by simp] at h
            exact h
          obtain ⟨na, hna⟩ : ∃ q, (enc a).length = q := ⟨_, rfl⟩
          rw [hna] at C1 hc1 hc2
          clear ha hva hvb oa ob hna el
          go_wp2_with fail
          go_quiet ((go_at_call 9; with_reducible exact quiet_at (C1.out _)))
          go_wp2
          go_roundw
          case rel => exact ⟨k + 1, by omega, by go_num, bdrewN hbel2 _⟩
          case measure => simp [intOf]; omega
        · have h2 : ¬ (k : Int) < (va.length : Int) := by omega
          have i97 : I32 [97] := fun r hr => by simp at hr; subst hr; omega
          have HCE := Lib.hid (encodeEach_m (c := 1) (Rd.one wr .i32 21 97) (show [97].length = 1 from rfl) i97 (by simp))
          go_wp2_with fail
          refine HCE.out.mono ?_
          rintro e w4 ⟨A4, c4, vb, rfl, ob, pb, l4⟩
          have ZB : Hid (vb.length = 1) := by show _ = _; rw [pb.1]; rfl
          have tb : ((vb.length : Int) == 1) = true := by rw [ZB.out]; rfl
          have hfin := bnext l03 (bnext hbel2 (bnext ((Below.refl _ _).alloc (Nat.le_refl _) (.cells #[.int .i32 97] 21)) l4))
          clear ob pb l4 HCE
          go_wp2
          go_ret
          exact ⟨rfl, hfin⟩
end Go.Proofs.Ytlbdhfpakajdaaa
