/- Contract of impl.DecodeScript. -/
import Derived.Test.YtbjigbhjnmcdgaaDoorDecLast
import Derived.Test.YtbjigbhjnmcdgaaDoorQuiet
set_option linter.unusedVariables false
namespace Go.Proofs.YtbjigbhjnmcdgaaDoor
open Go.RowKit P

def script : List Int → List Bool → List (Int × Nat)
  | _, [] => []
  | l, t :: ts => if t = true then decLast l :: script (l.take (l.length - (decLast l).2)) ts else dec1 l :: script (l.drop (dec1 l).2) ts
theorem script_len (l : List Int) (ts : List Bool) : (script l ts).length = ts.length := by
  induction ts generalizing l with
  | nil => rfl
  | cons t ts ih =>
    show (if t = true then _ else _ : List (Int × Nat)).length = _
    split <;> simp [ih]
/-- where a slice lies: nil without room, or in a block -/
def Lies (A : Option Addr) (c : Nat) : Prop := (A = none ∧ c = 0) ∨ ∃ b off, A = some ⟨b, off, none⟩
theorem Lies.cut {A : Option Addr} {c : Nat} (h : Lies A c) (lo : Nat) : Lies (cutA A c lo) (c - lo) := by
  rcases h with ⟨rfl, rfl⟩ | ⟨b, off, rfl⟩
  · left; unfold cutA; simp
  · right
    unfold cutA
    split
    · exact ⟨b, off, rfl⟩
    · exact ⟨b, off + lo, by simp only [Option.map_some, Option.some.injEq]; unfold Addr.add; split <;> simp_all⟩
theorem Own.lies {w : World} {base : Nat} {e : TypeId} {k : IntKind} {A : Option Addr} {n c : Nat} {xs : List Int} (h : Own w base e k (.slice A n c) xs) : Lies A c := by
  rcases h.2 with ⟨hv, h0⟩ | ⟨g, cap, cur, hv, _⟩
  · injection hv with h1 h2 h3; exact .inl ⟨h1, h3⟩
  · injection hv with h1 h2 h3; exact .inr ⟨g, 0, h1⟩
theorem decodeRune_all {A : Option Addr} {l : List Int} {c : Nat} {w : World} (hr : Rd w .u8 A l) (hb : Bytes l) (hT : Tabs w) (hA : Lies A c) :
    Calls Tryd.prog 22 #[.slice A l.length c] w fun e w' => e = .returned (.tuple #[.int .i32 (dec1 l).1, .int .i64 (dec1 l).2]) ∧ Below w.heap.size w w' := by
  by_cases h0 : 0 < l.length
  · exact decodeRune_pos hr hb hT h0
  · obtain rfl : l = [] := List.eq_nil_of_length_eq_zero (by omega)
    rcases hA with ⟨rfl, rfl⟩ | ⟨b, off, rfl⟩
    · exact (Tryd.utf8_DecodeRune_nil w).mono fun e w' h => ⟨h.1, by rw [h.2]; exact Below.refl _ _⟩
    · have h := Tryd.utf8_DecodeRune (ofInts []) b off c w hT (fun j hj => by simp [ofInts_size] at hj)
      rw [ofInts_size] at h
      exact h
theorem decodeLast_all {A : Option Addr} {l : List Int} {c : Nat} {w : World} (hr : Rd w .u8 A l) (hb : Bytes l) (hT : Tabs w) (hA : Lies A c) (hc : l.length ≤ c) (hl : l.length ≤ 9223372036854775807) :
    Calls Tryd.prog 23 #[.slice A l.length c] w fun e w' => e = .returned (.tuple #[.int .i32 (decLast l).1, .int .i64 (decLast l).2]) ∧ Below w.heap.size w w' := by
  by_cases h0 : 0 < l.length
  · exact decodeLast_pos hr hb hT h0 hc hl
  · obtain rfl : l = [] := List.eq_nil_of_length_eq_zero (by omega)
    rcases hA with ⟨rfl, rfl⟩ | ⟨b, off, rfl⟩
    · exact (Tryd.utf8_DecodeLastRune_nil w).mono fun e w' h => ⟨h.1, by rw [h.2]; exact Below.refl _ _⟩
    · have h := Tryd.utf8_DecodeLastRune (ofInts []) b off c w (by simp [ofInts_size]) (fun j hj => by simp [ofInts_size] at hj) (by simp [ofInts_size]) hT
      rw [ofInts_size] at h
      exact h
theorem dec1_le (l : List Int) (hb : Bytes l) : (dec1 l).2 ≤ l.length ∧ (dec1 l).2 ≤ 4 := by
  by_cases h : l = []
  · subst h; exact ⟨Nat.le_refl _, by decide⟩
  · have := dec1_size hb h; omega
theorem decLast_le (l : List Int) (hb : Bytes l) : (decLast l).2 ≤ l.length ∧ (decLast l).2 ≤ 4 := by
  by_cases h : l = []
  · subst h; exact ⟨Nat.le_refl _, by decide⟩
  · have := decLast_size hb h; omega

set_option maxHeartbeats 2000000 in
theorem decodeScript_any {A B : Option Addr} {l : List Int} {ts : List Bool} {c d : Nat} {w : World} (hr : Rd w .u8 A l) (hb : Bytes l) (hT : Tabs w) (hc : l.length ≤ c) (hA : Lies A c) (hl : l.length ≤ 17592186044416) (hB : RdB w B ts) (hlt : ts.length ≤ 16777216) :
    Calls Tryd.prog 10 #[.slice A l.length c, .slice B ts.length d] w (MadeTwo w ((script l ts).map (·.1)) ((script l ts).map fun x => (x.2 : Int))) := by
  obtain ⟨j8, hj8, _, hs8, _⟩ := info_parts info_u8
  have J8 := Lib.hid (And.intro hj8 hs8)
  clear hj8 hs8
  go_enter Tryd.func10, Tryd.ntmps10
  go_wp2
  go_loopw [0, 6, 7, 16] (fun v0 v6 v7 v16 wr => ∃ (k : Nat) (A : Option Addr) (c : Nat) (rest : List Int) (A4 : Option Addr) (c4 : Nat) (rs : List Int) (A5 : Option Addr) (c5 : Nat) (ss : List Int),
      k ≤ ts.length ∧ rs.length ≤ k ∧ ss.length ≤ k ∧ v16 = .int .i64 k ∧ v0 = .slice A rest.length c ∧ Rd w .u8 A rest ∧ Bytes rest ∧ rest.length ≤ c ∧ rest.length ≤ l.length ∧ Lies A c ∧ Hid (rs ++ (script rest (ts.drop k)).map (·.1) = (script l ts).map (·.1)) ∧ Hid (ss ++ (script rest (ts.drop k)).map (fun x => (x.2 : Int)) = (script l ts).map fun x => (x.2 : Int)) ∧
      v6 = .slice A4 rs.length c4 ∧ v7 = .slice A5 ss.length c5 ∧ Own wr w.heap.size 21 .i32 (.slice A4 rs.length c4) rs ∧ Own wr w.heap.size 3 .i64 (.slice A5 ss.length c5) ss ∧ Below w.heap.size w wr)
    (fun _ _ _ v16 _ => ts.length - (intOf v16).toNat)
  case atStart =>
    have hb0 : Below w.heap.size w (w.alloc (.cells #[] 21)) := (Below.refl _ _).alloc (Nat.le_refl _) _
    have hb1 : Below w.heap.size w ((w.alloc (.cells #[] 21)).alloc (.cells #[] 3)) := hb0.alloc hb0.size _
    have q5 := (Own.empty (w.alloc (.cells #[] 21)) 3 .i64).lower hb0.size
    have hz : (w.alloc (.cells #[] 21)).heap.size = w.heap.size + 1 := by simp
    rw [hz] at q5
    exact ⟨0, A, c, l, _, 0, [], _, 0, [], Nat.zero_le _, Nat.le_refl _, Nat.le_refl _, rfl, rfl, hr, hb, hc, Nat.le_refl _, hA, rfl, rfl, rfl, rfl, (Own.empty w _ _).alloc _, q5, hb1⟩
  case round =>
    obtain ⟨k, A0, c0, rest, A4, c4, rs, A5, c5, ss, hk, zr, zs, rfl, rfl, hrd, hby, hcap, hlen, hLi, hR, hS, rfl, rfl, o4, o5, hbel⟩ := hrel
    have hsz := hbel.size
    by_cases hkt : k < ts.length
    · obtain ⟨b1, off1, q, hA1, hb1, hq, hc1⟩ := (hB.next hbel).at_ hkt
      subst hA1
      have hdrop : ts.drop k = q :: ts.drop (k + 1) := by
        obtain ⟨hk', rfl⟩ := List.getElem?_eq_some_iff.1 hq
        exact (List.getElem_cons_drop hk').symm
      have h1 : (k : Int) < (ts.length : Int) := by omega
      have hq1 : (rs.length + 1) * 4 ≤ 140737488355328 := by omega
      have hq2 : rs.length + 1 ≤ maxLen := by unfold maxLen; omega
      have hq3 : (ss.length + 1) * 8 ≤ 140737488355328 := by omega
      have hq4 : ss.length + 1 ≤ maxLen := by unfold maxLen; omega
      cases q
      · have hst : script rest (ts.drop k) = dec1 rest :: script (rest.drop (dec1 rest).2) (ts.drop (k + 1)) := by rw [hdrop]; rfl
        have H1 := Lib.hid hst
        obtain ⟨hn3, hn4⟩ := dec1_le rest hby
        have hcut := fun W => run_cut_l (P := Tryd.prog) (w := W) 22 5 Tryd.underlying22 j8 J8.out.1 J8.out.2 A0 rest.length c0 (dec1 rest).2 ((dec1 rest).2 : Int) rfl hn3
        have HD := Lib.hid (decodeRune_all (c := c0) (hrd.next hbel) hby (hT.next hbel) hLi)
        have hdr := hrd.drop c0 (dec1 rest).2 hcap
        have hbd := hby.drop (dec1 rest).2
        have hli := hLi.cut (dec1 rest).2
        clear hst hq hdrop
        generalize hx : (dec1 rest).1 = x at *
        generalize hn : (dec1 rest).2 = n at *
        have HX := Lib.hid hx
        have HNn := Lib.hid hn
        clear hx hn
        go_wp2_with fail
        refine HD.out.mono ?_
        rintro e w1 ⟨rfl, l1⟩
        have o41 := o4.next l1
        have o51 := o5.next l1
        have hs1 := Nat.le_trans hsz l1.size
        go_wp2_with (first
          | (at_builtin; refine wpList_app1 w1 rfl _ _ 24 rfl w.heap.size 21 .i32 4 Tryd.underlying24 info_i32 x o41 rfl rfl hq1 hq2 hs1 ?_; intro A6 c6 rs1 w2 he1 o42 g2)
          | (at_builtin; refine wpList_app1 w2 rfl _ _ 25 rfl w.heap.size 3 .i64 8 Tryd.underlying25 info_int (n : Int) ((g2.own (o51.v.alloc (.cells #[.int .i32 x] 21)) ((sep_types (o51.v.alloc (.cells #[.int .i32 x] 21)) (o41.v.alloc (.cells #[.int .i32 x] 21)) int_ne.symm))).ints) rfl rfl hq3 hq4 (Nat.le_trans hs1 (g2.below_new o41 hs1).size) ?_; intro A7 c7 ss1 w3 he2 o53 g3))
        have b2 := g2.below_new o41 hs1
        have hs2 := Nat.le_trans hs1 b2.size
        have o52 := (g2.own (o51.v.alloc (.cells #[.int .i32 x] 21)) ((sep_types (o51.v.alloc (.cells #[.int .i32 x] 21)) (o41.v.alloc (.cells #[.int .i32 x] 21)) int_ne.symm))).ints
        have b3 := g3.below_new o52 hs2
        have o43 := (g3.own (o42.v.alloc (.cells #[.int .i64 (n : Int)] 3)) ((sep_types (o42.v.alloc (.cells #[.int .i64 (n : Int)] 3)) (o52.v.alloc (.cells #[.int .i64 (n : Int)] 3)) int_ne))).ints
        have hfin : Below w.heap.size w w3 := ((hbel.trans (l1.mono hsz)).trans b2).trans b3
        have y4 : rs1.length ≤ k + 1 := by rw [he1.out, List.length_append]; simp; omega
        have y5 : ss1.length ≤ k + 1 := by rw [he2.out, List.length_append]; simp; omega
        clear o4 o5 o41 o51 o42 o52 g2 g3
        go_roundw
        case rel =>
          refine ⟨k + 1, _, _, rest.drop n, A6, c6, rs1, A7, c7, ss1, by omega, y4, y5, by go_num, by rw [List.length_drop], hdr, hbd, by rw [List.length_drop]; omega, by rw [List.length_drop]; omega, hli, ?_, ?_, rfl, rfl, o43, o53, hfin⟩
          · show _ = _; rw [he1.out, ← hR.out, H1.out, List.map_cons, HX.out]; simp
          · show _ = _; rw [he2.out, ← hS.out, H1.out, List.map_cons, HNn.out]; simp
        case measure => simp [intOf]; omega
      · have hst : script rest (ts.drop k) = decLast rest :: script (rest.take (rest.length - (decLast rest).2)) (ts.drop (k + 1)) := by rw [hdrop]; rfl
        have H1 := Lib.hid hst
        obtain ⟨hn3, hn4⟩ := decLast_le rest hby
        have hcut := fun W => run_cut_h (P := Tryd.prog) (w := W) 22 5 Tryd.underlying22 j8 J8.out.1 A0 rest.length c0 (rest.length - (decLast rest).2) ((rest.length : Int) - ((decLast rest).2 : Int)) (by omega) (by omega)
        have HD := Lib.hid (decodeLast_all (c := c0) (hrd.next hbel) hby (hT.next hbel) hLi hcap (by omega))
        have hdr := hrd.take (rest.length - (decLast rest).2)
        have hbd := hby.take (rest.length - (decLast rest).2)
        clear hst hq hdrop
        generalize hx : (decLast rest).1 = x at *
        generalize hn : (decLast rest).2 = n at *
        have HX := Lib.hid hx
        have HNn := Lib.hid hn
        clear hx hn
        go_wp2_with fail
        refine HD.out.mono ?_
        rintro e w1 ⟨rfl, l1⟩
        have o41 := o4.next l1
        have o51 := o5.next l1
        have hs1 := Nat.le_trans hsz l1.size
        go_wp2_with (first
          | (at_builtin; refine wpList_app1 w1 rfl _ _ 24 rfl w.heap.size 21 .i32 4 Tryd.underlying24 info_i32 x o41 rfl rfl hq1 hq2 hs1 ?_; intro A6 c6 rs1 w2 he1 o42 g2)
          | (at_builtin; refine wpList_app1 w2 rfl _ _ 25 rfl w.heap.size 3 .i64 8 Tryd.underlying25 info_int (n : Int) ((g2.own (o51.v.alloc (.cells #[.int .i32 x] 21)) ((sep_types (o51.v.alloc (.cells #[.int .i32 x] 21)) (o41.v.alloc (.cells #[.int .i32 x] 21)) int_ne.symm))).ints) rfl rfl hq3 hq4 (Nat.le_trans hs1 (g2.below_new o41 hs1).size) ?_; intro A7 c7 ss1 w3 he2 o53 g3))
        have b2 := g2.below_new o41 hs1
        have hs2 := Nat.le_trans hs1 b2.size
        have o52 := (g2.own (o51.v.alloc (.cells #[.int .i32 x] 21)) ((sep_types (o51.v.alloc (.cells #[.int .i32 x] 21)) (o41.v.alloc (.cells #[.int .i32 x] 21)) int_ne.symm))).ints
        have b3 := g3.below_new o52 hs2
        have o43 := (g3.own (o42.v.alloc (.cells #[.int .i64 (n : Int)] 3)) ((sep_types (o42.v.alloc (.cells #[.int .i64 (n : Int)] 3)) (o52.v.alloc (.cells #[.int .i64 (n : Int)] 3)) int_ne))).ints
        have hfin : Below w.heap.size w w3 := ((hbel.trans (l1.mono hsz)).trans b2).trans b3
        have y4 : rs1.length ≤ k + 1 := by rw [he1.out, List.length_append]; simp; omega
        have y5 : ss1.length ≤ k + 1 := by rw [he2.out, List.length_append]; simp; omega
        clear o4 o5 o41 o51 o42 o52 g2 g3
        go_roundw
        case rel =>
          refine ⟨k + 1, A0, c0, rest.take (rest.length - n), A6, c6, rs1, A7, c7, ss1, by omega, y4, y5, by go_num, by rw [List.length_take, Nat.min_eq_left (Nat.sub_le _ _)], hdr, hbd, by rw [List.length_take]; omega, by rw [List.length_take]; omega, hLi, ?_, ?_, rfl, rfl, o43, o53, hfin⟩
          · show _ = _; rw [he1.out, ← hR.out, H1.out, List.map_cons, HX.out]; simp
          · show _ = _; rw [he2.out, ← hS.out, H1.out, List.map_cons, HNn.out]; simp
        case measure => simp [intOf]; omega
    · have h1 : ¬ (k : Int) < (ts.length : Int) := by omega
      have HN : Hid (ts.drop k = []) := List.drop_eq_nil_of_le (by omega)
      go_wp2
      go_ret2
      refine ⟨A4, c4, A5, c5, rs, ss, ?_, ?_, rfl, o4, o5, hbel⟩
      · show _ = _; rw [← hR.out, HN.out]; simp [script]
      · show _ = _; rw [← hS.out, HN.out]; simp [script]
end Go.Proofs.YtbjigbhjnmcdgaaDoor
