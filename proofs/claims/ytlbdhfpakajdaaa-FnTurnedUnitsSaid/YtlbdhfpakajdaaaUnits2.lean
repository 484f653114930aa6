/- Contracts: utf16.Decode, Encode; impl.DecodeUnits, EncodeUnits. -/
import Derived.Test.YtlbdhfpakajdaaaUnits
import Derived.Laws.MakeOwn
set_option linter.unusedVariables false
namespace Go.Proofs.Ytlbdhfpakajdaaa
open Go.RowKit P

theorem run_mk {P : Program} (t e : TypeId) (k : IntKind) (bytes : Nat) (ht : P.underlying t = some (.slice e)) (hinfo : (P.info? e).map (fun i => (i.zero, i.size, i.bytes)) = some (some (.int k 0), 1, bytes))
    (n c : Nat) (hnc : n ≤ c) (hb : bytes * c ≤ 281474976710656) (h63 : c ≤ 9223372036854775807) (w : World) :
    (Instr.makeSlice t (.int .i64 (n : Int)) (.int .i64 (c : Int))).run P w = .ok (.slice (some ⟨w.heap.size, 0, none⟩) n c) (w.alloc (.cells (madeCells #[.int k 0] c) e)) := by
  obtain ⟨i, hi, hz0, hz1, hz2⟩ := info_parts hinfo
  have hb' : (i.bytes : Int) * (c : Int) ≤ 281474976710656 := by
    have h : ((i.bytes * c : Nat) : Int) ≤ 281474976710656 := by rw [hz2]; omega
    rwa [Int.natCast_mul] at h
  have hr := run_make (P := P) w t e i (.int k 0) ht hi hz0 .i64 .i64 n c (by omega) (by omega) hb' (by omega)
  simpa [hz1, Value.cells] using hr
theorem made_size (k : IntKind) (c : Nat) : (madeCells #[Value.int k 0] c).size = c := by simp [madeCells]

set_option maxHeartbeats 400000 in
theorem decodeAll16_any {A : Option Addr} {us : List Int} {c : Nat} {w : World} (hu : Rd w .u16 A us) (hw : Units us) (hlu : us.length ≤ 1000000000000000) (hl : (dec16 us).length * 4 ≤ 140737488355328) :
    Calls Try.prog 26 #[.slice A us.length c] w (Made w 21 .i32 (dec16 us)) := by
  have hmk := fun W => run_mk (P := Try.prog) 22 21 .i32 4 Try.underlying22 info_i32 0 64 (by omega) (by omega) (by omega) W
  simp only [Int.cast_ofNat_Int] at hmk
  have hown : Own (w.alloc (.cells (madeCells #[.int .i32 0] 64) 21)) w.heap.size 21 .i32 (.slice (some ⟨w.heap.size, 0, none⟩) 0 64) [] :=
    World.ownsRow_made w _ 64 (Nat.le_refl _) (by decide) (by rw [made_size])
  have hub : ∀ b off, A = some ⟨b, off, none⟩ → 0 < us.length → b < w.heap.size := fun b off e h => by
    obtain ⟨b', off', e', hlt, _⟩ := hu h
    rw [e] at e'; injection e' with e'; injection e' with e'; omega
  have hdec := decode16_any (c := c) (hu.alloc (.cells (madeCells #[.int .i32 0] 64) 21)) hw hown (by simp) (by simp) hub hlu (by simpa using hl)
  have HD := Lib.hid hdec
  clear hdec hown hub hu
  go_enter Try.func26, Try.ntmps26
  go_wp2_with fail
  refine HD.out.mono ?_
  rintro e w1 ⟨A1, c1, ys, hys, rfl, hown1, hb1⟩
  go_wp2
  go_ret
  exact ⟨A1, c1, ys, hys, rfl, hown1, ((Below.refl _ _).alloc (Nat.le_refl _) _).trans hb1⟩
theorem decodeUnits_any {A : Option Addr} {us : List Int} {c : Nat} {w : World} (hu : Rd w .u16 A us) (hw : Units us) (hlu : us.length ≤ 1000000000000000) (hl : (dec16 us).length * 4 ≤ 140737488355328) :
    Calls Try.prog 18 #[.slice A us.length c] w (Made w 21 .i32 (dec16 us)) := by
  go_enter Try.func18, Try.ntmps18
  go_wp2_with (go_at_call 26; refine (decodeAll16_any hu hw hlu hl).mono ?_; rintro e w1 ⟨A1, c1, ys, hys, rfl, hown1, hb1⟩)
  go_ret
  exact ⟨A1, c1, ys, hys, rfl, hown1, hb1⟩

/-! ### Encode -/
def over (l : List Int) : Nat := (l.filter fun r => decide (65536 ≤ r)).length
theorem over_le (l : List Int) : over l ≤ l.length := List.length_filter_le _ _
theorem over_take (l : List Int) (k : Nat) : over (l.take k) ≤ over l := by
  conv => rhs; rw [← List.take_append_drop k l]
  unfold over
  rw [List.filter_append, List.length_append]; omega
theorem over_snoc (l : List Int) (r : Int) : over (l ++ [r]) = over l + if 65536 ≤ r then 1 else 0 := by
  unfold over
  rw [List.filter_append, List.length_append]
  by_cases h : 65536 ≤ r <;> simp [h]
theorem enc16_over (r : Int) : (enc16 r).length ≤ 1 + if 65536 ≤ r then 1 else 0 := by
  rcases enc16_forms r with ⟨_, _, _, _, e⟩ | ⟨h, _, _, _, e⟩
  · rw [e]; split <;> simp
  · rw [e]
    have : 65536 ≤ r := by
      unfold fix at h
      split at h <;> omega
    simp [this]
theorem encs16_over (l : List Int) : (encs16 l).length ≤ l.length + over l := by
  induction l with
  | nil => simp [encs16_nil]
  | cons r l ih =>
    rw [encs16_cons]
    have h1 := enc16_over r
    have h2 : over (r :: l) = over l + if 65536 ≤ r then 1 else 0 := by
      unfold over
      by_cases h : 65536 ≤ r <;> simp [h]
    rw [h2]
    simp only [List.length_append, List.length_cons]
    omega
theorem encs16_take (l : List Int) (k : Nat) : (encs16 (l.take k)).length + (l.length - k) ≤ l.length + over l ∧ (encs16 (l.take k)).length ≤ (encs16 l).length := by
  have h1 := encs16_over (l.take k)
  have h2 := over_take l k
  have h3 := List.length_take_le k l
  have h4 := List.length_take_le' k l
  constructor
  · rw [List.length_take] at h1; omega
  · conv => rhs; rw [← List.take_append_drop k l, encs16_append]
    rw [List.length_append]; omega

/-- a block that is known whole -/
def Blk (w : World) (g : Nat) (e : TypeId) (cur : Array Value) : Prop := w.heap[g]? = some (.cells cur e (0, 0))
section
variable {w w' : World} {g : Nat} {e : TypeId} {cur : Array Value}
theorem Blk.lt (h : Blk w g e cur) : g < w.heap.size := (Array.getElem?_eq_some_iff.1 h).1
theorem Blk.cell (h : Blk w g e cur) (i : Nat) : w.cell? ⟨g, i, none⟩ = cur[i]? := cell_of_row w g i cur e (0, 0) h
theorem Blk.free (h : Blk w g e cur) (i : Nat) : w.frozen? ⟨g, i, none⟩ = false := by
  unfold Blk at h
  simp [World.frozen?, h]
theorem Blk.made (w : World) (e : TypeId) (cur : Array Value) : Blk (w.alloc (.cells cur e)) w.heap.size e cur := heap_alloc_new w _
theorem Blk.set (h : Blk w g e cur) (i : Nat) (u : Value) : Blk (w.setCell ⟨g, i, none⟩ u) g e (cur.setIfInBounds i u) := by
  unfold Blk at h ⊢
  simp [World.setCell, Array.getElem?_modify, h]
theorem Blk.some_ (h : Blk w g e cur) {i : Nat} (hi : i < cur.size) : ∃ u, w.cell? ⟨g, i, none⟩ = some u := ⟨cur[i], by rw [h.cell]; simp [hi]⟩
end
/-- the first cells of a block are these numbers -/
def Firsts (cur : Array Value) (k : IntKind) (xs : List Int) : Prop := xs.length ≤ cur.size ∧ ∀ (j : Nat) (x : Int), xs[j]? = some x → cur[j]? = some (Value.int k x)
theorem Firsts.push {cur : Array Value} {k : IntKind} {xs : List Int} (h : Firsts cur k xs) (x : Int) (hlt : xs.length < cur.size) : Firsts (cur.setIfInBounds xs.length (.int k x)) k (xs ++ [x]) := by
  refine ⟨by simp; omega, fun j y hj => ?_⟩
  rw [Array.getElem?_setIfInBounds]
  by_cases e : j = xs.length
  · subst e
    rw [List.getElem?_append_right (Nat.le_refl _)] at hj
    simp at hj
    subst hj
    simp [hlt]
  · rw [if_neg (fun h => e h.symm)]
    rw [List.getElem?_append] at hj
    split at hj
    · exact h.2 j y hj
    · rw [List.getElem?_eq_none (by simp; omega)] at hj; cases hj
theorem Firsts.own {w : World} {base g : Nat} {e : TypeId} {k : IntKind} {cur : Array Value} {xs : List Int} (h : Firsts cur k xs) (hb : Blk w g e cur) (hg : base ≤ g) (hm : cur.size ≤ maxLen) :
    Own w base e k (.slice (some ⟨g, 0, none⟩) xs.length cur.size) xs := by
  refine ⟨by simp, .inr ⟨g, cur.size, cur, rfl, hg, hb, h.1, hm, by simp, ?_⟩⟩
  apply List.ext_getElem?
  intro j
  rw [List.getElem?_take]
  by_cases hj : j < xs.length
  · have := h.2 j xs[j] (List.getElem?_eq_getElem hj)
    simp [hj, this]
  · simp [hj]

set_option maxHeartbeats 2000000 in
theorem encode16_any {A : Option Addr} {rs : List Int} {c : Nat} {w : World} (hr : Rd w .i32 A rs) (hi : I32 rs) (hl : rs.length ≤ 70368744177664) :
    Calls Try.prog 25 #[.slice A rs.length c] w (Made w 37 .u16 (encs16 rs)) := by
  have hov := over_le rs
  have hmk := run_mk (P := Try.prog) 35 37 .u16 2 Try.underlying35 info_u16 (rs.length + over rs) (rs.length + over rs) (Nat.le_refl _) (by omega) (by omega) w
  simp only [Int.natCast_add] at hmk
  go_enter Try.func25, Try.ntmps25
  go_wp2
  go_loop [3, 15] (fun n i => ∃ k : Nat, k ≤ rs.length ∧ i = .int .i64 k ∧ n = .int .i64 ((rs.length : Int) + (over (rs.take k) : Int))) (fun _ i => rs.length - (intOf i).toNat)
  case atStart => exact ⟨0, Nat.zero_le _, rfl, by simp [over]⟩
  case round =>
    obtain ⟨k, hk, rfl, rfl⟩ := hrel
    have hok := over_take rs k
    by_cases hlt : k < rs.length
    · obtain ⟨b, off, x, rfl, hb, hxk, hcx⟩ := hr.at_ hlt
      have HX := Lib.hid hxk
      clear hxk
      have h1 : (k : Int) < (rs.length : Int) := by omega
      by_cases hx : 65536 ≤ x
      · have HO : Hid (over (rs.take (k + 1)) = over (rs.take k) + 1) := by show _ = _; rw [take_succ HX.out, over_snoc, if_pos hx]
        go_wp2
        go_round
        case rel => exact ⟨k + 1, by omega, by go_num, by rw [HO.out]; first | rfl | (congr 1; omega) | go_num⟩
        case measure => simp [intOf]; omega
      · have HO : Hid (over (rs.take (k + 1)) = over (rs.take k)) := by show _ = _; rw [take_succ HX.out, over_snoc, if_neg hx]; rfl
        go_wp2
        go_round
        case rel => exact ⟨k + 1, by omega, by go_num, by rw [HO.out]⟩
        case measure => simp [intOf]; omega
    · have h1 : ¬ (k : Int) < (rs.length : Int) := by omega
      have hkk : k = rs.length := by omega
      subst hkk
      have htk : rs.take rs.length = rs := List.take_length
      rw [htk]
      clear hok htk
      go_wp2
      have hN : (madeCells #[Value.int .u16 0] (rs.length + over rs)).size = rs.length + over rs := made_size _ _
      go_loopw [3, 28] (fun n i wr => ∃ (k : Nat) (cur : Array Value) (acc : List Int), k ≤ rs.length ∧ i = .int .i64 k ∧ n = .int .i64 acc.length ∧ Hid (acc = encs16 (rs.take k)) ∧ Blk wr w.heap.size 37 cur ∧ Hid (cur.size = rs.length + over rs) ∧ Firsts cur .u16 acc ∧ Below w.heap.size w wr)
        (fun _ i _ => rs.length - (intOf i).toNat)
      case atStart => exact ⟨0, _, [], Nat.zero_le _, rfl, rfl, rfl, Blk.made _ _ _, hN, ⟨Nat.zero_le _, fun j x h => by simp at h⟩, (Below.refl _ _).alloc (Nat.le_refl _) _⟩
      case round =>
        clear hmk hN
        obtain ⟨k, cur, acc, hk, rfl, rfl, hacc, hblk, hsize, hfir, hbel⟩ := hrel
        have hsz := hbel.size
        have htk := encs16_take rs k
        rw [← hacc.out] at htk
        have htk1 := htk.1
        clear htk
        by_cases hlt : k < rs.length
        · obtain ⟨b, off, x, rfl, hb, hxk, hcx⟩ := (hr.next hbel).at_ hlt
          have hx32 := hi x (mem_at hxk)
          have htk2 := (encs16_take rs (k + 1)).1
          have hnext : encs16 (rs.take (k + 1)) = acc ++ enc16 x := by rw [take_succ hxk, encs16_append, ← hacc.out, encs16_cons, encs16_nil, List.append_nil]
          rw [hnext, List.length_append] at htk2
          have HX := Lib.hid hxk
          have HN := Lib.hid hnext
          clear hxk hnext
          have h1 : (k : Int) < (rs.length : Int) := by omega
          have hx0 := hx32.1
          have hx1 := hx32.2
          clear hx32
          have hpos := (enc16_len x).1
          have hlt1 : acc.length < rs.length + over rs := by omega
          obtain ⟨u1, hu1⟩ := hblk.some_ (i := acc.length) (by rw [hsize.out]; exact hlt1)
          have hf1 := hblk.free acc.length
          by_cases hg : good x = true
          · have hg' := good_iff.1 hg
            by_cases h16 : x < 65536
            · have hlen : len16 x = 1 := by rw [len16_val]; repeat' split; all_goals omega
              have henc : enc16 x = [x] := by unfold enc16; rw [fix_of_good hg, if_pos h16]
              have hx2 : 0 ≤ x := by omega
              have HE := Lib.hid henc
              clear hg hg' henc
              go_wp2_with (go_at_call 30; refine (runeLen16_any x _).mono ?_; rintro e w' ⟨rfl, rfl⟩)
              go_roundw
              case rel =>
                have hp := hfir.push x (by rw [hsize.out]; exact hlt1)
                refine ⟨k + 1, _, acc ++ [x], by omega, by go_num, by simp, ?_, hblk.set _ _, ?_, hp, hbel.setCell (Nat.le_refl _) _⟩
                · show _ = _; rw [HN.out, HE.out]
                · show _ = _; simp [hsize.out]
              case measure => simp [intOf]; omega
            · have hlen : len16 x = 2 := by rw [len16_val]; repeat' split; all_goals omega
              have henc : enc16 x = [55296 + (x - 65536) / 1024, 56320 + (x - 65536) % 1024] := by unfold enc16; rw [fix_of_good hg, if_neg h16]
              have hlt2 : acc.length + 1 < rs.length + over rs := by rw [henc] at htk2; simp at htk2; omega
              obtain ⟨u2, hu2⟩ := hblk.some_ (i := acc.length + 1) (by rw [hsize.out]; exact hlt2)
              have hf2 := hblk.free (acc.length + 1)
              have hx2 : 65536 ≤ x := by omega
              have hx3 : x ≤ 1114111 := by omega
              have HE := Lib.hid henc
              clear hg hg' henc h16
              go_wp2_with (first
                | (go_at_call 30; refine (runeLen16_any x _).mono ?_; rintro e w' ⟨rfl, rfl⟩)
                | (go_at_call 31; refine (encodeRune16_any x hx2 hx3 _).mono ?_; rintro e w' ⟨rfl, rfl⟩))
              go_roundw
              case rel =>
                have hp := hfir.push (55296 + (x - 65536) / 1024) (by rw [hsize.out]; exact hlt1)
                have hp2 := hp.push (56320 + (x - 65536) % 1024) (by simp [hsize.out]; omega)
                have hb2 := (hblk.set acc.length (.int .u16 (55296 + (x - 65536) / 1024))).set (acc.length + 1) (.int .u16 (56320 + (x - 65536) % 1024))
                simp only [List.length_append, List.length_cons, List.length_nil, Nat.zero_add] at hp2
                refine ⟨k + 1, _, (acc ++ [55296 + (x - 65536) / 1024]) ++ [56320 + (x - 65536) % 1024], by omega, by go_num, ?_, ?_, hb2, ?_, hp2, (hbel.setCell (Nat.le_refl _) _).setCell (Nat.le_refl _) _⟩
                · simp
                · show _ = _; rw [HN.out, HE.out]; simp
                · show _ = _; simp [hsize.out]
              case measure => simp [intOf]; omega
          · have hg' : good x = false := by simpa using hg
            have henc : enc16 x = [65533] := by unfold enc16; rw [fix_bad hg']; rfl
            have hlen : len16 x = -1 := by unfold len16; rw [if_neg hg]
            have HE := Lib.hid henc
            clear hg hg' henc
            go_wp2_with (go_at_call 30; refine (runeLen16_any x _).mono ?_; rintro e w' ⟨rfl, rfl⟩)
            go_roundw
            case rel =>
              have hp := hfir.push 65533 (by rw [hsize.out]; exact hlt1)
              refine ⟨k + 1, _, acc ++ [65533], by omega, by go_num, by simp, ?_, hblk.set _ _, ?_, hp, hbel.setCell (Nat.le_refl _) _⟩
              · show _ = _; rw [HN.out, HE.out]
              · show _ = _; simp [hsize.out]
            case measure => simp [intOf]; omega
        · have h1 : ¬ (k : Int) < (rs.length : Int) := by omega
          have hle : acc.length ≤ rs.length + over rs := by omega
          go_wp2
          go_ret
          have ho := hfir.own hblk (Nat.le_refl _) (by rw [hsize.out]; unfold maxLen; omega)
          rw [hsize.out] at ho
          refine ⟨_, _, acc, ?_, rfl, ho, hbel⟩
          show acc = _
          rw [hacc.out, List.take_of_length_le (by omega)]
theorem encodeUnits_any {A : Option Addr} {rs : List Int} {c : Nat} {w : World} (hr : Rd w .i32 A rs) (hi : I32 rs) (hl : rs.length ≤ 70368744177664) :
    Calls Try.prog 16 #[.slice A rs.length c] w (Made w 37 .u16 (encs16 rs)) := by
  go_enter Try.func16, Try.ntmps16
  go_wp2_with (go_at_call 25; refine (encode16_any hr hi hl).mono ?_; rintro e w1 ⟨A1, c1, ys, hys, rfl, hown1, hb1⟩)
  go_ret
  exact ⟨A1, c1, ys, hys, rfl, hown1, hb1⟩
end Go.Proofs.Ytlbdhfpakajdaaa
