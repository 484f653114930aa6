/- Contracts of the string decoders and of impl.DecodeStringScript. -/
import Derived.Test.YtbjigbhjnmcdgaaDoorScript
import Derived.Test.YtbjigbhjnmcdgaaDoorShelfS
import Derived.Laws.BytesArg
set_option linter.unusedVariables false
namespace Go.Proofs.YtbjigbhjnmcdgaaDoor
open Go.RowKit P

theorem ba_ext {a b : ByteArray} (h : a.data.toList = b.data.toList) : a = b := by
  obtain ⟨a⟩ := a; obtain ⟨b⟩ := b
  exact congrArg ByteArray.mk (Array.ext' h)
theorem ofInts_drop (l : List Int) (n : Nat) : (ofInts l).extract n (ofInts l).size = ofInts (l.drop n) := by
  refine ba_ext ?_
  rw [Lib.extract_data, ofInts_size, ofInts_list, ofInts_list, List.map_drop, List.take_of_length_le (by simp)]
theorem ofInts_take (l : List Int) (n : Nat) : (ofInts l).extract 0 n = ofInts (l.take n) := by
  refine ba_ext ?_
  rw [Lib.extract_data, ofInts_list, ofInts_list, List.map_take]; simp
theorem decodeRuneS_all {l : List Int} {w : World} (hb : Bytes l) (hT : Tabs w) :
    Calls Tryd.prog 25 #[.string (ofInts l)] w fun e w' => e = .returned (.tuple #[.int .i32 (dec1 l).1, .int .i64 (dec1 l).2]) ∧ Below w.heap.size w w' := by
  have h := Tryd.utf8_DecodeRuneInString (ofInts l) w hT
  obtain ⟨e1, e2⟩ := dec1_go hb
  rw [e1, e2] at h
  exact h
theorem decodeLastS_all {l : List Int} {w : World} (hb : Bytes l) (hT : Tabs w) (hl : l.length ≤ 9223372036854775807) :
    Calls Tryd.prog 24 #[.string (ofInts l)] w fun e w' => e = .returned (.tuple #[.int .i32 (decLast l).1, .int .i64 (decLast l).2]) ∧ Below w.heap.size w w' := by
  have h := Tryd.utf8_DecodeLastRuneInString (ofInts l) w (by rw [ofInts_size]; exact hl) hT
  by_cases hne : l = []
  · subst hne; exact h
  · obtain ⟨e1, e2⟩ := decLast_go hb hne
    rw [e1, e2] at h
    exact h

set_option maxHeartbeats 2000000 in
theorem decodeStringScript_any {B : Option Addr} {l : List Int} {ts : List Bool} {d : Nat} {w : World} (hb : Bytes l) (hT : Tabs w) (hl : l.length ≤ 17592186044416) (hB : RdB w B ts) (hlt : ts.length ≤ 16777216) :
    Calls Tryd.prog 11 #[.string (ofInts l), .slice B ts.length d] w (MadeTwo w ((script l ts).map (·.1)) ((script l ts).map fun x => (x.2 : Int))) := by
  obtain ⟨s0, hs0⟩ : ∃ s, s = ofInts l := ⟨_, rfl⟩
  rw [← hs0]
  have HS0 := Lib.hid hs0
  clear hs0
  go_enter Tryd.func11, Tryd.ntmps11
  go_wp2
  go_loopw [0, 6, 7, 16] (fun v0 v6 v7 v16 wr => ∃ (k : Nat) (s : ByteArray) (rest : List Int) (A4 : Option Addr) (c4 : Nat) (rs : List Int) (A5 : Option Addr) (c5 : Nat) (ss : List Int),
      k ≤ ts.length ∧ rs.length ≤ k ∧ ss.length ≤ k ∧ v16 = .int .i64 k ∧ v0 = .string s ∧ Hid (s = ofInts rest) ∧ Bytes rest ∧ s.size ≤ l.length ∧ Hid (rs ++ (script rest (ts.drop k)).map (·.1) = (script l ts).map (·.1)) ∧ Hid (ss ++ (script rest (ts.drop k)).map (fun x => (x.2 : Int)) = (script l ts).map fun x => (x.2 : Int)) ∧
      v6 = .slice A4 rs.length c4 ∧ v7 = .slice A5 ss.length c5 ∧ Own wr w.heap.size 21 .i32 (.slice A4 rs.length c4) rs ∧ Own wr w.heap.size 3 .i64 (.slice A5 ss.length c5) ss ∧ Below w.heap.size w wr)
    (fun _ _ _ v16 _ => ts.length - (intOf v16).toNat)
  case atStart =>
    have hb0 : Below w.heap.size w (w.alloc (.cells #[] 21)) := (Below.refl _ _).alloc (Nat.le_refl _) _
    have hb1 : Below w.heap.size w ((w.alloc (.cells #[] 21)).alloc (.cells #[] 3)) := hb0.alloc hb0.size _
    have q5 := (Own.empty (w.alloc (.cells #[] 21)) 3 .i64).lower hb0.size
    have hz : (w.alloc (.cells #[] 21)).heap.size = w.heap.size + 1 := by simp
    rw [hz] at q5
    exact ⟨0, s0, l, _, 0, [], _, 0, [], Nat.zero_le _, Nat.le_refl _, Nat.le_refl _, rfl, rfl, HS0, hb, (by rw [HS0.out, ofInts_size]; exact Nat.le_refl _), rfl, rfl, rfl, rfl, (Own.empty w _ _).alloc _, q5, hb1⟩
  case round =>
    obtain ⟨k, s, rest, A4, c4, rs, A5, c5, ss, hk, zr, zs, rfl, rfl, HS, hby, hlen, hR, hS, rfl, rfl, o4, o5, hbel⟩ := hrel
    have HZ : Hid (s.size = rest.length) := by show _ = _; rw [HS.out, ofInts_size]
    have hsz := hbel.size
    by_cases hkt : k < ts.length
    · obtain ⟨b1, off1, q, hA1, hb1, hq, hc1⟩ := (hB.next hbel).at_ hkt
      subst hA1
      have hdrop : ts.drop k = q :: ts.drop (k + 1) := by
        obtain ⟨hk', rfl⟩ := List.getElem?_eq_some_iff.1 hq
        exact (List.getElem_cons_drop hk').symm
      have h1 : (k : Int) < (ts.length : Int) := by omega
      have hq1 : (rs.length + 1) * 4 ≤ 140737488355328 := by omega
      have hq2 : rs.length + 1 ≤ maxLen := by unfold maxLen; omega
      have hq3 : (ss.length + 1) * 8 ≤ 140737488355328 := by omega
      have hq4 : ss.length + 1 ≤ maxLen := by unfold maxLen; omega
      cases q
      · have hst : script rest (ts.drop k) = dec1 rest :: script (rest.drop (dec1 rest).2) (ts.drop (k + 1)) := by rw [hdrop]; rfl
        have H1 := Lib.hid hst
        obtain ⟨hn3, hn4⟩ := dec1_le rest hby
        rw [← HZ.out] at hn3
        have hdd := decodeRuneS_all (w := wr) hby (hT.next hbel)
        rw [← HS.out] at hdd
        have HD := Lib.hid hdd
        clear hdd
        have hbd := hby.drop (dec1 rest).2
        clear hst hq hdrop
        generalize hx : (dec1 rest).1 = x at *
        generalize hn : (dec1 rest).2 = n at *
        have HX := Lib.hid hx
        have HNn := Lib.hid hn
        clear hx hn
        go_wp2_with fail
        refine HD.out.mono ?_
        rintro e w1 ⟨rfl, l1⟩
        have o41 := o4.next l1
        have o51 := o5.next l1
        have hs1 := Nat.le_trans hsz l1.size
        go_wp2_with (first
          | (at_builtin; refine wpList_app1 w1 rfl _ _ 24 rfl w.heap.size 21 .i32 4 Tryd.underlying24 info_i32 x o41 rfl rfl hq1 hq2 hs1 ?_; intro A6 c6 rs1 w2 he1 o42 g2)
          | (at_builtin; refine wpList_app1 w2 rfl _ _ 25 rfl w.heap.size 3 .i64 8 Tryd.underlying25 info_int (n : Int) ((g2.own (o51.v.alloc (.cells #[.int .i32 x] 21)) ((sep_types (o51.v.alloc (.cells #[.int .i32 x] 21)) (o41.v.alloc (.cells #[.int .i32 x] 21)) int_ne.symm))).ints) rfl rfl hq3 hq4 (Nat.le_trans hs1 (g2.below_new o41 hs1).size) ?_; intro A7 c7 ss1 w3 he2 o53 g3))
        have b2 := g2.below_new o41 hs1
        have hs2 := Nat.le_trans hs1 b2.size
        have o52 := (g2.own (o51.v.alloc (.cells #[.int .i32 x] 21)) ((sep_types (o51.v.alloc (.cells #[.int .i32 x] 21)) (o41.v.alloc (.cells #[.int .i32 x] 21)) int_ne.symm))).ints
        have b3 := g3.below_new o52 hs2
        have o43 := (g3.own (o42.v.alloc (.cells #[.int .i64 (n : Int)] 3)) ((sep_types (o42.v.alloc (.cells #[.int .i64 (n : Int)] 3)) (o52.v.alloc (.cells #[.int .i64 (n : Int)] 3)) int_ne))).ints
        have hfin : Below w.heap.size w w3 := ((hbel.trans (l1.mono hsz)).trans b2).trans b3
        have y4 : rs1.length ≤ k + 1 := by rw [he1.out, List.length_append]; simp; omega
        have y5 : ss1.length ≤ k + 1 := by rw [he2.out, List.length_append]; simp; omega
        clear o4 o5 o41 o51 o42 o52 g2 g3
        go_roundw
        case rel =>
          refine ⟨k + 1, s.extract n s.size, rest.drop n, A6, c6, rs1, A7, c7, ss1, by omega, y4, y5, by go_num, rfl, ?_, hbd, ?_, ?_, ?_, rfl, rfl, o43, o53, hfin⟩
          · show _ = _; rw [HS.out, ofInts_drop]
          · simp [ByteArray.size_extract]; omega
          · show _ = _; rw [he1.out, ← hR.out, H1.out, List.map_cons, HX.out]; simp
          · show _ = _; rw [he2.out, ← hS.out, H1.out, List.map_cons, HNn.out]; simp
        case measure => simp [intOf]; omega
      · have hst : script rest (ts.drop k) = decLast rest :: script (rest.take (rest.length - (decLast rest).2)) (ts.drop (k + 1)) := by rw [hdrop]; rfl
        have H1 := Lib.hid hst
        obtain ⟨hn3, hn4⟩ := decLast_le rest hby
        rw [← HZ.out] at hn3
        have hdd := decodeLastS_all (w := wr) hby (hT.next hbel) (by rw [← HZ.out]; omega)
        rw [← HS.out] at hdd
        have HD := Lib.hid hdd
        have hn5 : (s.size : Int) - ((decLast rest).2 : Int) ≤ (s.size : Int) := by omega
        have hn6 : 0 ≤ (s.size : Int) - ((decLast rest).2 : Int) := by omega
        clear hdd
        have hbd := hby.take (rest.length - (decLast rest).2)
        clear hst hq hdrop
        generalize hx : (decLast rest).1 = x at *
        generalize hn : (decLast rest).2 = n at *
        have HX := Lib.hid hx
        have HNn := Lib.hid hn
        clear hx hn
        go_wp2_with fail
        refine HD.out.mono ?_
        rintro e w1 ⟨rfl, l1⟩
        have o41 := o4.next l1
        have o51 := o5.next l1
        have hs1 := Nat.le_trans hsz l1.size
        go_wp2_with (first
          | (at_builtin; refine wpList_app1 w1 rfl _ _ 24 rfl w.heap.size 21 .i32 4 Tryd.underlying24 info_i32 x o41 rfl rfl hq1 hq2 hs1 ?_; intro A6 c6 rs1 w2 he1 o42 g2)
          | (at_builtin; refine wpList_app1 w2 rfl _ _ 25 rfl w.heap.size 3 .i64 8 Tryd.underlying25 info_int (n : Int) ((g2.own (o51.v.alloc (.cells #[.int .i32 x] 21)) ((sep_types (o51.v.alloc (.cells #[.int .i32 x] 21)) (o41.v.alloc (.cells #[.int .i32 x] 21)) int_ne.symm))).ints) rfl rfl hq3 hq4 (Nat.le_trans hs1 (g2.below_new o41 hs1).size) ?_; intro A7 c7 ss1 w3 he2 o53 g3))
        have b2 := g2.below_new o41 hs1
        have hs2 := Nat.le_trans hs1 b2.size
        have o52 := (g2.own (o51.v.alloc (.cells #[.int .i32 x] 21)) ((sep_types (o51.v.alloc (.cells #[.int .i32 x] 21)) (o41.v.alloc (.cells #[.int .i32 x] 21)) int_ne.symm))).ints
        have b3 := g3.below_new o52 hs2
        have o43 := (g3.own (o42.v.alloc (.cells #[.int .i64 (n : Int)] 3)) ((sep_types (o42.v.alloc (.cells #[.int .i64 (n : Int)] 3)) (o52.v.alloc (.cells #[.int .i64 (n : Int)] 3)) int_ne))).ints
        have hfin : Below w.heap.size w w3 := ((hbel.trans (l1.mono hsz)).trans b2).trans b3
        have y4 : rs1.length ≤ k + 1 := by rw [he1.out, List.length_append]; simp; omega
        have y5 : ss1.length ≤ k + 1 := by rw [he2.out, List.length_append]; simp; omega
        clear o4 o5 o41 o51 o42 o52 g2 g3
        go_roundw
        case rel =>
          refine ⟨k + 1, _, rest.take (rest.length - n), A6, c6, rs1, A7, c7, ss1, by omega, y4, y5, by go_num, rfl, ?_, hbd, ?_, ?_, ?_, rfl, rfl, o43, o53, hfin⟩
          · show _ = _; rw [HS.out, ofInts_take, ofInts_size]
          · simp [ByteArray.size_extract]; omega
          · show _ = _; rw [he1.out, ← hR.out, H1.out, List.map_cons, HX.out]; simp
          · show _ = _; rw [he2.out, ← hS.out, H1.out, List.map_cons, HNn.out]; simp
        case measure => simp [intOf]; omega
    · have h1 : ¬ (k : Int) < (ts.length : Int) := by omega
      have HN : Hid (ts.drop k = []) := List.drop_eq_nil_of_le (by omega)
      go_wp2
      go_ret2
      refine ⟨A4, c4, A5, c5, rs, ss, ?_, ?_, rfl, o4, o5, hbel⟩
      · show _ = _; rw [← hR.out, HN.out]; simp [script]
      · show _ = _; rw [← hS.out, HN.out]; simp [script]
end Go.Proofs.YtbjigbhjnmcdgaaDoor
