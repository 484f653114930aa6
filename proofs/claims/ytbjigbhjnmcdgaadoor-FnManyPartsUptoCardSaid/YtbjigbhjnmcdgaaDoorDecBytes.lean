/- Contract of impl.DecodeBytes. -/
import Derived.Test.YtbjigbhjnmcdgaaDoorDec
import Derived.Test.YtbjigbhjnmcdgaaDoorQuiet
set_option linter.unusedVariables false
namespace Go.Proofs.YtbjigbhjnmcdgaaDoor
open Go.RowKit P

theorem Tabs.next {w w' : World} (h : Tabs w) (hb : Below w.heap.size w w') : Tabs w' :=
  ⟨fun c hc => (hb.cell (World.block_lt_of_cell? w _ (h.1 c hc))).trans (h.1 c hc),
   fun i hi => ⟨(hb.cell (World.block_lt_of_cell? w _ (h.2 i hi).1)).trans (h.2 i hi).1, (hb.cell (World.block_lt_of_cell? w _ (h.2 i hi).2)).trans (h.2 i hi).2⟩⟩

/-- the runes, and the sizes, of some bytes -/
def runes8 (l : List Int) : List Int := (decs l).map (·.1)
def sizes8 (l : List Int) : List Int := (decs l).map fun d => (d.2 : Int)
theorem runes8_len (l : List Int) : (runes8 l).length = (decs l).length := by simp [runes8]
theorem sizes8_len (l : List Int) : (sizes8 l).length = (decs l).length := by simp [sizes8]
theorem runes8_step {l : List Int} (h : l ≠ []) : runes8 l = (dec1 l).1 :: runes8 (l.drop (dec1 l).2) := by unfold runes8; rw [decs_step h]; rfl
theorem sizes8_step {l : List Int} (h : l ≠ []) : sizes8 l = ((dec1 l).2 : Int) :: sizes8 (l.drop (dec1 l).2) := by unfold sizes8; rw [decs_step h]; rfl

def lenV : Value → Nat
  | .slice _ n _ => n
  | _ => 0

/-- what a call that makes two slices leaves -/
def MadeTwo (w : World) (xs ys : List Int) : Ending → World → Prop := fun en w' =>
  ∃ A c A' c' rs ss, Hid (rs = xs) ∧ Hid (ss = ys) ∧ en = .returned (.tuple #[.slice A rs.length c, .slice A' ss.length c']) ∧
    Own w' w.heap.size 21 .i32 (.slice A rs.length c) rs ∧ Own w' w.heap.size 3 .i64 (.slice A' ss.length c') ss ∧ Below w.heap.size w w'

theorem int_ne : (21 : TypeId) ≠ 3 := by decide

set_option maxHeartbeats 1000000 in
theorem decodeBytes_any {A : Option Addr} {l : List Int} {c : Nat} {w : World} (hr : Rd w .u8 A l) (hb : Bytes l) (hT : Tabs w) (hc : l.length ≤ c) (hl : l.length ≤ 17592186044416) :
    Calls Tryd.prog 7 #[.slice A l.length c] w (MadeTwo w (runes8 l) (sizes8 l)) := by
  obtain ⟨j8, hj8, _, hs8, _⟩ := info_parts info_u8
  have J8 := Lib.hid (And.intro hj8 hs8)
  clear hj8 hs8
  go_enter Tryd.func7, Tryd.ntmps7
  go_wp2
  go_loopw [0, 4, 5] (fun v0 v4 v5 wr => ∃ (A : Option Addr) (c : Nat) (rest : List Int) (A4 : Option Addr) (c4 : Nat) (rs : List Int) (A5 : Option Addr) (c5 : Nat) (ss : List Int),
      v0 = .slice A rest.length c ∧ Rd w .u8 A rest ∧ Bytes rest ∧ rest.length ≤ c ∧ rest.length ≤ l.length ∧ Hid (rs ++ runes8 rest = runes8 l) ∧ Hid (ss ++ sizes8 rest = sizes8 l) ∧
      v4 = .slice A4 rs.length c4 ∧ v5 = .slice A5 ss.length c5 ∧ Own wr w.heap.size 21 .i32 (.slice A4 rs.length c4) rs ∧ Own wr w.heap.size 3 .i64 (.slice A5 ss.length c5) ss ∧ Below w.heap.size w wr)
    (fun v0 _ _ _ => lenV v0)
  case atStart =>
    have hb0 : Below w.heap.size w (w.alloc (.cells #[] 21)) := (Below.refl _ _).alloc (Nat.le_refl _) _
    have hb1 : Below w.heap.size w ((w.alloc (.cells #[] 21)).alloc (.cells #[] 3)) := hb0.alloc hb0.size _
    have q5 := (Own.empty (w.alloc (.cells #[] 21)) 3 .i64).lower hb0.size
    have hz : (w.alloc (.cells #[] 21)).heap.size = w.heap.size + 1 := by simp
    rw [hz] at q5
    exact ⟨A, c, l, _, 0, [], _, 0, [], rfl, hr, hb, hc, Nat.le_refl _, rfl, rfl, rfl, rfl, (Own.empty w _ _).alloc _, q5, hb1⟩
  case round =>
    obtain ⟨A0, c0, rest, A4, c4, rs, A5, c5, ss, rfl, hrd, hby, hcap, hlen, hR, hS, rfl, rfl, o4, o5, hbel⟩ := hrel
    have hsz := hbel.size
    have hl4 : rs.length ≤ l.length := by
      have h1 := congrArg List.length hR.out
      rw [List.length_append, runes8_len l] at h1
      have := decs_le l; omega
    have hl5 : ss.length ≤ l.length := by
      have h1 := congrArg List.length hS.out
      rw [List.length_append, sizes8_len l] at h1
      have := decs_le l; omega
    by_cases hpos : 0 < rest.length
    · have hne : rest ≠ [] := List.length_pos_iff.1 hpos
      have hst1 := runes8_step hne
      have hst2 := sizes8_step hne
      have hdl := congrArg List.length hR.out
      rw [List.length_append, runes8_len l, hst1, List.length_cons] at hdl
      have hl4' : rs.length + 1 ≤ l.length := by have := decs_le l; omega
      have hdl2 := congrArg List.length hS.out
      rw [List.length_append, sizes8_len l, hst2, List.length_cons] at hdl2
      have hl5' : ss.length + 1 ≤ l.length := by have := decs_le l; omega
      obtain ⟨hn1, hn2, hn3⟩ := dec1_size hby hne
      have hcut := fun W => run_cut_l (P := Tryd.prog) (w := W) 22 5 Tryd.underlying22 j8 J8.out.1 J8.out.2 A0 rest.length c0 (dec1 rest).2 ((dec1 rest).2 : Int) rfl hn3
      have H1 := Lib.hid hst1
      have H2 := Lib.hid hst2
      have hdec := decodeRune_pos (c := c0) (hrd.next hbel) hby (hT.next hbel) hpos
      have hdr := hrd.drop c0 (dec1 rest).2 hcap
      have hbd := hby.drop (dec1 rest).2
      have hgt : (0 : Int) < (rest.length : Int) := by omega
      have HD := Lib.hid hdec
      clear hst1 hst2 hdl hdl2 hne hdec
      generalize hx : (dec1 rest).1 = x at *
      generalize hn : (dec1 rest).2 = n at *
      have HX := Lib.hid hx
      have HNn := Lib.hid hn
      clear hx hn
      go_wp2_with fail
      refine HD.out.mono ?_
      rintro e w1 ⟨rfl, l1⟩
      have o41 := o4.next l1
      have o51 := o5.next l1
      have hs1 := Nat.le_trans hsz l1.size
      have hq1 : (rs.length + 1) * 4 ≤ 140737488355328 := by omega
      have hq2 : rs.length + 1 ≤ maxLen := by unfold maxLen; omega
      have hq3 : (ss.length + 1) * 8 ≤ 140737488355328 := by omega
      have hq4 : ss.length + 1 ≤ maxLen := by unfold maxLen; omega
      go_wp2_with (first
        | (at_builtin; refine wpList_app1 w1 rfl _ _ 24 rfl w.heap.size 21 .i32 4 Tryd.underlying24 info_i32 x o41 rfl rfl hq1 hq2 hs1 ?_; intro A6 c6 rs1 w2 he1 o42 g2)
        | (at_builtin; refine wpList_app1 w2 rfl _ _ 25 rfl w.heap.size 3 .i64 8 Tryd.underlying25 info_int (n : Int) ((g2.own (o51.v.alloc (.cells #[.int .i32 x] 21)) ((sep_types (o51.v.alloc (.cells #[.int .i32 x] 21)) (o41.v.alloc (.cells #[.int .i32 x] 21)) int_ne.symm))).ints) rfl rfl hq3 hq4 (Nat.le_trans hs1 (g2.below_new o41 hs1).size) ?_; intro A7 c7 ss1 w3 he2 o53 g3))
      have b2 := g2.below_new o41 hs1
      have hs2 := Nat.le_trans hs1 b2.size
      have o52 := (g2.own (o51.v.alloc (.cells #[.int .i32 x] 21)) ((sep_types (o51.v.alloc (.cells #[.int .i32 x] 21)) (o41.v.alloc (.cells #[.int .i32 x] 21)) int_ne.symm))).ints
      have b3 := g3.below_new o52 hs2
      have o43 := (g3.own (o42.v.alloc (.cells #[.int .i64 (n : Int)] 3)) ((sep_types (o42.v.alloc (.cells #[.int .i64 (n : Int)] 3)) (o52.v.alloc (.cells #[.int .i64 (n : Int)] 3)) int_ne))).ints
      have hfin : Below w.heap.size w w3 := ((hbel.trans (l1.mono hsz)).trans b2).trans b3
      clear o4 o5 o41 o51 o42 o52 g2 g3
      go_roundw
      case rel =>
        refine ⟨_, _, rest.drop n, A6, c6, rs1, A7, c7, ss1, by rw [List.length_drop], hdr, hbd, by rw [List.length_drop]; omega, by rw [List.length_drop]; omega, ?_, ?_, rfl, rfl, o43, o53, hfin⟩
        · show _ = _; rw [he1.out, ← hR.out, H1.out]; simp
        · show _ = _; rw [he2.out, ← hS.out, H2.out]; simp
      case measure => simp [lenV]; omega
    · have hgt : ¬ (0 : Int) < (rest.length : Int) := by omega
      have hnil : rest = [] := List.eq_nil_of_length_eq_zero (by omega)
      have HN := Lib.hid hnil
      clear hnil
      go_wp2
      go_ret2
      refine ⟨A4, c4, A5, c5, rs, ss, ?_, ?_, rfl, o4, o5, hbel⟩
      · show _ = _; rw [← hR.out, HN.out]; simp [runes8, decs_nil]
      · show _ = _; rw [← hS.out, HN.out]; simp [sizes8, decs_nil]
end Go.Proofs.YtbjigbhjnmcdgaaDoor
