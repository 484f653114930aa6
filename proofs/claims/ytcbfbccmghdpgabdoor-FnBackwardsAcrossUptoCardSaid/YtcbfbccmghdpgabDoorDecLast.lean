/- Contracts of utf8.DecodeLastRune and impl.DecodeBytesBack. -/
import Derived.Test.YtcbfbccmghdpgabDoorDecBytes
set_option linter.unusedVariables false
namespace Go.Proofs.YtcbfbccmghdpgabDoor
open Go.RowKit P

def u8of (z : Int) : UInt8 := UInt8.ofNat z.toNat
theorem u8of_list (l : List Int) : (ofInts l).data.toList = l.map u8of := ofInts_list
theorem u8of_getD (l : List Int) (k : Nat) : (l.map u8of).getD k 0 = u8of (l.getD k 0) := by
  simp only [List.getD_eq_getElem?_getD, List.getElem?_map]
  cases l[k]? <;> rfl
theorem u8of_toNat {z : Int} (h : 0 ≤ z ∧ z < 256) : (u8of z).toNat = z.toNat := by
  unfold u8of; rw [UInt8.toNat_ofNat']; omega
theorem getD_bytes {l : List Int} (hb : Bytes l) (k : Nat) : 0 ≤ l.getD k 0 ∧ l.getD k 0 < 256 := by
  simp only [List.getD_eq_getElem?_getD]
  cases h : l[k]? with
  | none => simp
  | some x => exact hb x (List.mem_of_getElem? h)
theorem start_go {l : List Int} (hb : Bytes l) (k : Nat) : Lib.runeStartB ((l.map u8of).getD k 0) = !isC (l.getD k 0) := by
  rw [u8of_getD]
  have h := getD_bytes hb k
  generalize l.getD k 0 = z at *
  unfold Lib.runeStartB isC
  rw [u8of_toNat h]
  by_cases h2 : 128 ≤ z ∧ z < 192
  · have : z.toNat / 64 = 2 := by omega
    simp [this, h2]
  · have : z.toNat / 64 ≠ 2 := by omega
    simp [this, h2]
theorem lastStart_go {l : List Int} (hb : Bytes l) : Lib.lastStart (l.map u8of) = P.lastStart l := by
  unfold Lib.lastStart P.lastStart
  simp only [List.length_map, start_go hb, Bool.not_eq_true']
theorem decodeL_go {l : List Int} (hb : Bytes l) (hne : l ≠ []) : ((Lib.decodeL (l.map u8of)).1 : Int) = (dec1 l).1 ∧ (Lib.decodeL (l.map u8of)).2 = (dec1 l).2 := by
  have h := dec1_go hb
  unfold Lib.decodeGo at h
  have h0 : ¬ (ofInts l).size = 0 := by rw [ofInts_size]; intro e; exact hne (List.eq_nil_of_length_eq_zero e)
  rw [if_neg h0] at h
  exact h
theorem decLast_go {l : List Int} (hb : Bytes l) (hne : l ≠ []) : ((Lib.decodeLastL (ofInts l).data.toList).1 : Int) = (decLast l).1 ∧ (Lib.decodeLastL (ofInts l).data.toList).2 = (decLast l).2 := by
  rw [u8of_list]
  unfold Lib.decodeLastL decLast
  rw [if_neg hne, if_neg (by simpa using hne)]
  simp only [List.length_map]
  rw [u8of_getD, u8of_toNat (getD_bytes hb _), lastStart_go hb, ← List.map_drop]
  have h := getD_bytes hb (l.length - 1)
  have hd := decodeL_go (hb.drop (P.lastStart l)) (by have := lastStart_lt hne; intro e; have := congrArg List.length e; simp at this; omega)
  by_cases h1 : l.getD (l.length - 1) 0 < 128
  · rw [if_pos h1, if_pos (by omega)]; exact ⟨by simp only; omega, rfl⟩
  · rw [if_neg h1, if_neg (by omega), hd.2]
    split
    · exact hd
    · exact ⟨rfl, rfl⟩

theorem decodeLast_pos {A : Option Addr} {l : List Int} {c : Nat} {w : World} (hr : Rd w .u8 A l) (hb : Bytes l) (hT : Tabs w) (hne : 0 < l.length) (hc : l.length ≤ c) (hl : l.length ≤ 9223372036854775807) :
    Calls Tryd.prog 40 #[.slice A l.length c] w fun e w' => e = .returned (.tuple #[.int .i32 (decLast l).1, .int .i64 (decLast l).2]) ∧ Below w.heap.size w w' := by
  obtain ⟨b, off, rfl, hlt, hcell⟩ := hr hne
  have h := Tryd.utf8_DecodeLastRune (ofInts l) b off c w (by rw [ofInts_size]; exact hc) (cells_of hb hcell) (by rw [ofInts_size]; exact hl) hT
  rw [ofInts_size] at h
  obtain ⟨e1, e2⟩ := decLast_go hb (List.length_pos_iff.1 hne)
  rw [e1, e2] at h
  exact h
def runesB (l : List Int) : List Int := ((decs l).map (·.1)).reverse
def sizesB (l : List Int) : List Int := ((decs l).map fun d => (d.2 : Int)).reverse
theorem runesB_len (l : List Int) : (runesB l).length = (decs l).length := by simp [runesB]
theorem sizesB_len (l : List Int) : (sizesB l).length = (decs l).length := by simp [sizesB]
theorem runesB_step {l : List Int} (hb : Bytes l) (h : l ≠ []) : runesB l = (decLast l).1 :: runesB (l.take (l.length - (decLast l).2)) := by unfold runesB; rw [decs_last hb h]; simp
theorem sizesB_step {l : List Int} (hb : Bytes l) (h : l ≠ []) : sizesB l = ((decLast l).2 : Int) :: sizesB (l.take (l.length - (decLast l).2)) := by unfold sizesB; rw [decs_last hb h]; simp

set_option maxHeartbeats 1000000 in
theorem decodeBytesBack_any {A : Option Addr} {l : List Int} {c : Nat} {w : World} (hr : Rd w .u8 A l) (hb : Bytes l) (hT : Tabs w) (hc : l.length ≤ c) (hl : l.length ≤ 17592186044416) :
    Calls Tryd.prog 24 #[.slice A l.length c] w (MadeTwo w (runesB l) (sizesB l)) := by
  obtain ⟨j8, hj8, _, hs8, _⟩ := info_parts info_u8
  have J8 := Lib.hid (And.intro hj8 hs8)
  clear hj8 hs8
  go_enter Tryd.func24, Tryd.ntmps24
  go_wp2
  go_loopw [0, 4, 5] (fun v0 v4 v5 wr => ∃ (rest : List Int) (A4 : Option Addr) (c4 : Nat) (rs : List Int) (A5 : Option Addr) (c5 : Nat) (ss : List Int),
      v0 = .slice A rest.length c ∧ Rd w .u8 A rest ∧ Bytes rest ∧ rest.length ≤ c ∧ rest.length ≤ l.length ∧ Hid (rs ++ runesB rest = runesB l) ∧ Hid (ss ++ sizesB rest = sizesB l) ∧
      v4 = .slice A4 rs.length c4 ∧ v5 = .slice A5 ss.length c5 ∧ Own wr w.heap.size 21 .i32 (.slice A4 rs.length c4) rs ∧ Own wr w.heap.size 3 .i64 (.slice A5 ss.length c5) ss ∧ Below w.heap.size w wr)
    (fun v0 _ _ _ => lenV v0)
  case atStart =>
    have hb0 : Below w.heap.size w (w.alloc (.cells #[] 21)) := (Below.refl _ _).alloc (Nat.le_refl _) _
    have hb1 : Below w.heap.size w ((w.alloc (.cells #[] 21)).alloc (.cells #[] 3)) := hb0.alloc hb0.size _
    have q5 := (Own.empty (w.alloc (.cells #[] 21)) 3 .i64).lower hb0.size
    have hz : (w.alloc (.cells #[] 21)).heap.size = w.heap.size + 1 := by simp
    rw [hz] at q5
    exact ⟨l, _, 0, [], _, 0, [], rfl, hr, hb, hc, Nat.le_refl _, rfl, rfl, rfl, rfl, (Own.empty w _ _).alloc _, q5, hb1⟩
  case round =>
    obtain ⟨rest, A4, c4, rs, A5, c5, ss, rfl, hrd, hby, hcap, hlen, hR, hS, rfl, rfl, o4, o5, hbel⟩ := hrel
    have hsz := hbel.size
    have hl4 : rs.length ≤ l.length := by
      have h1 := congrArg List.length hR.out
      rw [List.length_append, runesB_len l] at h1
      have := decs_le l; omega
    have hl5 : ss.length ≤ l.length := by
      have h1 := congrArg List.length hS.out
      rw [List.length_append, sizesB_len l] at h1
      have := decs_le l; omega
    by_cases hpos : 0 < rest.length
    · have hne : rest ≠ [] := List.length_pos_iff.1 hpos
      have hst1 := runesB_step hby hne
      have hst2 := sizesB_step hby hne
      have hdl := congrArg List.length hR.out
      rw [List.length_append, runesB_len l, hst1, List.length_cons] at hdl
      have hl4' : rs.length + 1 ≤ l.length := by have := decs_le l; omega
      have hdl2 := congrArg List.length hS.out
      rw [List.length_append, sizesB_len l, hst2, List.length_cons] at hdl2
      have hl5' : ss.length + 1 ≤ l.length := by have := decs_le l; omega
      obtain ⟨hn1, hn2, hn3⟩ := decLast_size hby hne
      have hcut := fun W => run_cut_h (P := Tryd.prog) (w := W) 29 5 Tryd.underlying29 j8 J8.out.1 A rest.length c (rest.length - (decLast rest).2) ((rest.length : Int) - ((decLast rest).2 : Int)) (by omega) (by omega)
      have H1 := Lib.hid hst1
      have H2 := Lib.hid hst2
      have hdec := decodeLast_pos (c := c) (hrd.next hbel) hby (hT.next hbel) hpos hcap (by omega)
      have hdr := hrd.take (rest.length - (decLast rest).2)
      have hbd := hby.take (rest.length - (decLast rest).2)
      have hgt : (0 : Int) < (rest.length : Int) := by omega
      have HD := Lib.hid hdec
      clear hst1 hst2 hdl hdl2 hne hdec
      generalize hx : (decLast rest).1 = x at *
      generalize hn : (decLast rest).2 = n at *
      have HX := Lib.hid hx
      have HNn := Lib.hid hn
      clear hx hn
      go_wp2_with fail
      refine HD.out.mono ?_
      rintro e w1 ⟨rfl, l1⟩
      have o41 := o4.next l1
      have o51 := o5.next l1
      have hs1 := Nat.le_trans hsz l1.size
      have hq1 : (rs.length + 1) * 4 ≤ 140737488355328 := by omega
      have hq2 : rs.length + 1 ≤ maxLen := by unfold maxLen; omega
      have hq3 : (ss.length + 1) * 8 ≤ 140737488355328 := by omega
      have hq4 : ss.length + 1 ≤ maxLen := by unfold maxLen; omega
      go_wp2_with (first
        | (at_builtin; refine wpList_app1 w1 rfl _ _ 25 rfl w.heap.size 21 .i32 4 Tryd.underlying25 info_i32 x o41 rfl rfl hq1 hq2 hs1 ?_; intro A6 c6 rs1 w2 he1 o42 g2)
        | (at_builtin; refine wpList_app1 w2 rfl _ _ 26 rfl w.heap.size 3 .i64 8 Tryd.underlying26 info_int (n : Int) ((g2.own (o51.v.alloc (.cells #[.int .i32 x] 21)) ((sep_types (o51.v.alloc (.cells #[.int .i32 x] 21)) (o41.v.alloc (.cells #[.int .i32 x] 21)) int_ne.symm))).ints) rfl rfl hq3 hq4 (Nat.le_trans hs1 (g2.below_new o41 hs1).size) ?_; intro A7 c7 ss1 w3 he2 o53 g3))
      have b2 := g2.below_new o41 hs1
      have hs2 := Nat.le_trans hs1 b2.size
      have o52 := (g2.own (o51.v.alloc (.cells #[.int .i32 x] 21)) ((sep_types (o51.v.alloc (.cells #[.int .i32 x] 21)) (o41.v.alloc (.cells #[.int .i32 x] 21)) int_ne.symm))).ints
      have b3 := g3.below_new o52 hs2
      have o43 := (g3.own (o42.v.alloc (.cells #[.int .i64 (n : Int)] 3)) ((sep_types (o42.v.alloc (.cells #[.int .i64 (n : Int)] 3)) (o52.v.alloc (.cells #[.int .i64 (n : Int)] 3)) int_ne))).ints
      have hfin : Below w.heap.size w w3 := ((hbel.trans (l1.mono hsz)).trans b2).trans b3
      clear o4 o5 o41 o51 o42 o52 g2 g3
      go_roundw
      case rel =>
        refine ⟨rest.take (rest.length - n), A6, c6, rs1, A7, c7, ss1, by rw [List.length_take, Nat.min_eq_left (Nat.sub_le _ _)], hdr, hbd, by rw [List.length_take]; omega, by rw [List.length_take]; omega, ?_, ?_, rfl, rfl, o43, o53, hfin⟩
        · show _ = _; rw [he1.out, ← hR.out, H1.out]; simp
        · show _ = _; rw [he2.out, ← hS.out, H2.out]; simp
      case measure => simp [lenV]; omega
    · have hgt : ¬ (0 : Int) < (rest.length : Int) := by omega
      have hnil : rest = [] := List.eq_nil_of_length_eq_zero (by omega)
      have HN := Lib.hid hnil
      clear hnil
      go_wp2
      go_ret2
      refine ⟨A4, c4, A5, c5, rs, ss, ?_, ?_, rfl, o4, o5, hbel⟩
      · show _ = _; rw [← hR.out, HN.out]; simp [runesB, decs_nil]
      · show _ = _; rw [← hS.out, HN.out]; simp [sizesB, decs_nil]
end Go.Proofs.YtcbfbccmghdpgabDoor
