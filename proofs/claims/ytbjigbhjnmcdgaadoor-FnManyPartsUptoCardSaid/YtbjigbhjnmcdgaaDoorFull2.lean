/- Contract of utf8.FullRune and of impl.FullEach. -/
import Derived.Test.YtbjigbhjnmcdgaaDoorFull
set_option linter.unusedVariables false
namespace Go.Proofs.YtbjigbhjnmcdgaaDoor
open Go.RowKit P

theorem firstT_inv (h : Nat) : (Lib.firstT h = 240 ∧ h < 128) ∨ Lib.firstT h = 241 ∨ (Lib.firstT h = 2 ∧ 194 ≤ h ∧ h < 224) ∨ (Lib.firstT h = 19 ∧ h = 224) ∨ (Lib.firstT h = 3 ∧ ((225 ≤ h ∧ h ≤ 236) ∨ (238 ≤ h ∧ h ≤ 239))) ∨ (Lib.firstT h = 35 ∧ h = 237) ∨ (Lib.firstT h = 52 ∧ h = 240) ∨ (Lib.firstT h = 4 ∧ 241 ≤ h ∧ h ≤ 243) ∨ (Lib.firstT h = 68 ∧ h = 244) := by
  unfold Lib.firstT
  repeat' split
  all_goals omega

theorem enc_two {h : Nat} {y : Int} (h0 : 194 ≤ h) (h1 : h < 224) (hy : 128 ≤ y ∧ y ≤ 191) : ∃ r, good r = true ∧ enc r = [(h : Int), y] := by
  refine ⟨((h : Int) - 192) * 64 + (y - 128), by rw [good_iff]; omega, ?_⟩
  rw [enc, Lib.encodeRuneZ_two (by omega) (by omega)]
  simp only [List.cons.injEq, and_true]; omega
theorem enc_three {h : Nat} {y z : Int} (hc : (h = 224 ∧ 160 ≤ y ∧ y ≤ 191) ∨ (((225 ≤ h ∧ h ≤ 236) ∨ (238 ≤ h ∧ h ≤ 239)) ∧ 128 ≤ y ∧ y ≤ 191) ∨ (h = 237 ∧ 128 ≤ y ∧ y ≤ 159)) (hz : 128 ≤ z ∧ z ≤ 191) : ∃ r, good r = true ∧ enc r = [(h : Int), y, z] := by
  refine ⟨((h : Int) - 224) * 4096 + (y - 128) * 64 + (z - 128), by rw [good_iff]; omega, ?_⟩
  rw [enc, Lib.encodeRuneZ_three (by omega)]
  simp only [List.cons.injEq, and_true]; omega
theorem enc_four' {h : Nat} {y z u : Int} (hc : (h = 240 ∧ 144 ≤ y ∧ y ≤ 191) ∨ ((241 ≤ h ∧ h ≤ 243) ∧ 128 ≤ y ∧ y ≤ 191) ∨ (h = 244 ∧ 128 ≤ y ∧ y ≤ 143)) (hz : 128 ≤ z ∧ z ≤ 191) (hu : 128 ≤ u ∧ u ≤ 191) : ∃ r, good r = true ∧ enc r = [(h : Int), y, z, u] := by
  refine ⟨((h : Int) - 240) * 262144 + (y - 128) * 4096 + (z - 128) * 64 + (u - 128), by rw [good_iff]; omega, ?_⟩
  rw [enc, Lib.encodeRuneZ_four (by omega) (by omega)]
  simp only [List.cons.injEq, and_true]; omega
theorem Part.of {r : Int} {l m : List Int} (hg : good r = true) (he : enc r = l ++ m) (hm : m ≠ []) : Part l := by
  have := List.length_pos_iff.2 hm
  exact ⟨r, l.length, hg, by rw [he, List.length_append]; omega, by rw [he]; simp⟩

set_option maxHeartbeats 4000000 in
set_option maxRecDepth 1000000 in
theorem fullRune_ge {b off c h s n : Nat} {w : World} (X : Int) (hs0 : w.cell? ⟨b, off, none⟩ = some (.int .u8 (h : Int))) (hh : h < 256) (hc0 : w.cell? ⟨0, h, none⟩ = some (.int .u8 X)) (h7 : bits .and .u8 X 7 = (s : Int)) (hs4 : s ≤ 4) (hX0 : 0 ≤ X) (hX1 : X < 256) (hn0 : 0 < n) (hn : s ≤ n) :
    Calls Tryd.prog 30 #[.slice (some ⟨b, off, none⟩) n c] w fun e w' => e = .returned (.bool true) ∧ Below w.heap.size w w' := by
  have h1 : ((n : Int) == 0) = false := by simp only [beq_eq_false_iff_ne, ne_eq]; omega
  have h2 : (0 : Int) < (n : Int) := by omega
  have h3 : (s : Int) ≤ (n : Int) := by omega
  go_enter Tryd.func30, Tryd.ntmps30
  go_wp2
  go_ret
  exact ⟨rfl, Below.refl _ _⟩
set_option maxHeartbeats 4000000 in
set_option maxRecDepth 1000000 in
theorem fullRune_off {b off c h a s n : Nat} {w : World} {lo hi : Int} (X : Int) (hs0 : w.cell? ⟨b, off, none⟩ = some (.int .u8 (h : Int))) (hh : h < 256) (hc0 : w.cell? ⟨0, h, none⟩ = some (.int .u8 X)) (h7 : bits .and .u8 X 7 = (s : Int)) (hs : n < s) (hs4 : s ≤ 4)
    (h4 : X / 16 = (a : Int)) (hX0 : 0 ≤ X) (hX1 : X < 256) (ha : a < 16) (ha0 : w.cell? ⟨1, a * 2, none⟩ = some (.int .u8 lo)) (ha1 : w.cell? ⟨1, a * 2 + 1, none⟩ = some (.int .u8 hi)) {y : Int} (hy : w.cell? ⟨b, off + 1, none⟩ = some (.int .u8 y)) (hn : 2 ≤ n) (ho : y < lo ∨ (¬ y < lo ∧ hi < y)) :
    Calls Tryd.prog 30 #[.slice (some ⟨b, off, none⟩) n c] w fun e w' => e = .returned (.bool true) ∧ Below w.heap.size w w' := by
  have hb : b < w.heap.size := World.block_lt_of_cell? w _ hs0
  have h1 : ((n : Int) == 0) = false := by simp only [beq_eq_false_iff_ne, ne_eq]; omega
  have h2 : (0 : Int) < (n : Int) := by omega
  have h3 : ¬ (s : Int) ≤ (n : Int) := by omega
  have h5 : (1 : Int) < (n : Int) := by omega
  rcases ho with h6 | ⟨h6, h8⟩
  · go_enter Tryd.func30, Tryd.ntmps30
    go_wp2
    go_quiet (fail)
    go_wp2
    go_ret
    exact ⟨rfl, bdrewN ((Below.refl _ _).alloc (Nat.le_refl _) _) _⟩
  · go_enter Tryd.func30, Tryd.ntmps30
    go_wp2
    go_quiet (fail)
    go_wp2
    go_ret
    exact ⟨rfl, bdrewN ((Below.refl _ _).alloc (Nat.le_refl _) _) _⟩
set_option maxHeartbeats 4000000 in
set_option maxRecDepth 1000000 in
theorem fullRune_off3 {b off c h a s : Nat} {w : World} {lo hi : Int} (X : Int) (hs0 : w.cell? ⟨b, off, none⟩ = some (.int .u8 (h : Int))) (hh : h < 256) (hc0 : w.cell? ⟨0, h, none⟩ = some (.int .u8 X)) (h7 : bits .and .u8 X 7 = (s : Int)) (hs : 3 < s) (hs4 : s ≤ 4)
    (h4 : X / 16 = (a : Int)) (hX0 : 0 ≤ X) (hX1 : X < 256) (ha : a < 16) (ha0 : w.cell? ⟨1, a * 2, none⟩ = some (.int .u8 lo)) (ha1 : w.cell? ⟨1, a * 2 + 1, none⟩ = some (.int .u8 hi)) {y z : Int} (hy : w.cell? ⟨b, off + 1, none⟩ = some (.int .u8 y)) (hlo : ¬ y < lo) (hhi : ¬ hi < y) (hz : w.cell? ⟨b, off + 2, none⟩ = some (.int .u8 z)) (ho : z < 128 ∨ (¬ z < 128 ∧ 191 < z)) :
    Calls Tryd.prog 30 #[.slice (some ⟨b, off, none⟩) 3 c] w fun e w' => e = .returned (.bool true) ∧ Below w.heap.size w w' := by
  have hb : b < w.heap.size := World.block_lt_of_cell? w _ hs0
  rcases ho with h6 | ⟨h6, h8⟩
  · go_enter Tryd.func30, Tryd.ntmps30
    go_wp2
    go_quiet (fail)
    go_wp2
    go_ret
    exact ⟨rfl, bdrewN ((Below.refl _ _).alloc (Nat.le_refl _) _) _⟩
  · go_enter Tryd.func30, Tryd.ntmps30
    go_wp2
    go_quiet (fail)
    go_wp2
    go_ret
    exact ⟨rfl, bdrewN ((Below.refl _ _).alloc (Nat.le_refl _) _) _⟩

set_option maxHeartbeats 1000000 in
theorem fullRune_full {A : Option Addr} {l : List Int} {c : Nat} {w : World} (hr : Rd w .u8 A l) (hby : Bytes l) (hne : 0 < l.length) (hP : ¬ Part l) (hT : Tabs w) :
    Calls Tryd.prog 30 #[.slice A l.length c] w fun e w' => e = .returned (.bool true) ∧ Below w.heap.size w w' := by
  obtain ⟨b, off, rfl, hb, hc⟩ := hr hne
  obtain ⟨h', l1, rfl⟩ := List.exists_cons_of_ne_nil (List.length_pos_iff.1 hne)
  have hb0 := hby h' (by simp)
  obtain ⟨h, rfl⟩ : ∃ h : Nat, h' = (h : Int) := ⟨h'.toNat, by omega⟩
  have hh : h < 256 := by omega
  have s0 : w.cell? ⟨b, off, none⟩ = some (.int .u8 (h : Int)) := by simpa using hc 0 (h : Int) rfl
  have fin : ∀ (X s a lo hi : Nat), Lib.firstT h = X → bits .and .u8 (X : Int) 7 = (s : Int) → (X : Int) / 16 = (a : Int) → X < 256 → a < 16 → Lib.accLo a = lo → Lib.accHi a = hi → s ≤ 4 →
      (1 < s → Part [(h : Int)]) → (∀ y, 2 < s → (lo : Int) ≤ y → y ≤ (hi : Int) → Part [(h : Int), y]) → (∀ y z, 3 < s → (lo : Int) ≤ y → y ≤ (hi : Int) → 128 ≤ z → z ≤ 191 → Part [(h : Int), y, z]) →
      Calls Tryd.prog 30 #[.slice (some ⟨b, off, none⟩) ((h : Int) :: l1).length c] w fun e w' => e = .returned (.bool true) ∧ Below w.heap.size w w' := by
    intro X s a lo hi e1 e2 e4 e5 e6 e7 e8 hs4 p1 p2 p3
    have c0 := hT.1 h hh
    rw [e1] at c0
    have a0 := (hT.2 a e6).1
    have a1 := (hT.2 a e6).2
    rw [e7] at a0
    rw [e8] at a1
    rw [Nat.mul_comm] at a0 a1
    by_cases hge : s ≤ ((h : Int) :: l1).length
    · exact fullRune_ge (X : Int) s0 hh c0 e2 hs4 (by omega) (by omega) (by simp) hge
    · match l1, hc, hby, hP, hge with
      | [], hc, hby, hP, hge => simp at hge; exact absurd (p1 (by omega)) hP
      | [y], hc, hby, hP, hge =>
        simp at hge
        have s1 := hc 1 y rfl
        by_cases hy : (lo : Int) ≤ y ∧ y ≤ (hi : Int)
        · exact absurd (p2 y (by omega) hy.1 hy.2) hP
        · exact fullRune_off (n := 2) (X : Int) s0 hh c0 e2 (by omega) hs4 e4 (by omega) (by omega) e6 a0 a1 s1 (by omega) (by omega)
      | [y, z], hc, hby, hP, hge =>
        simp at hge
        have s1 := hc 1 y rfl
        have s2 := hc 2 z rfl
        by_cases hy : (lo : Int) ≤ y ∧ y ≤ (hi : Int)
        · by_cases hz : 128 ≤ z ∧ z ≤ 191
          · exact absurd (p3 y z (by omega) hy.1 hy.2 hz.1 hz.2) hP
          · exact fullRune_off3 (X : Int) s0 hh c0 e2 (by omega) hs4 e4 (by omega) (by omega) e6 a0 a1 s1 (by omega) (by omega) s2 (by omega)
        · exact fullRune_off (n := 3) (X : Int) s0 hh c0 e2 (by omega) hs4 e4 (by omega) (by omega) e6 a0 a1 s1 (by omega) (by omega)
      | y :: z :: u :: t, hc, hby, hP, hge => simp at hge; omega
  rcases firstT_inv h with ⟨q, q1⟩ | q | ⟨q, q1, q2⟩ | ⟨q, q1⟩ | ⟨q, q1⟩ | ⟨q, q1⟩ | ⟨q, q1⟩ | ⟨q, q1, q2⟩ | ⟨q, q1⟩
  · exact fin 240 0 15 0 0 q (by decide) (by decide) (by decide) (by decide) rfl rfl (by decide) (fun h => by omega) (fun _ h => by omega) (fun _ _ h => by omega)
  · exact fin 241 1 15 0 0 q (by decide) (by decide) (by decide) (by decide) rfl rfl (by decide) (fun h => by omega) (fun _ h => by omega) (fun _ _ h => by omega)
  · refine fin 2 2 0 128 191 q (by decide) (by decide) (by decide) (by decide) rfl rfl (by decide) (fun _ => ?_) (fun _ h => by omega) (fun _ _ h => by omega)
    obtain ⟨r, hg, he⟩ := enc_two (y := 128) q1 q2 (by omega)
    exact Part.of (m := [128]) hg he (by simp)
  · refine fin 19 3 1 160 191 q (by decide) (by decide) (by decide) (by decide) rfl rfl (by decide) (fun _ => ?_) (fun y _ h1 h2 => ?_) (fun _ _ h => by omega)
    · obtain ⟨r, hg, he⟩ := enc_three (h := h) (y := 160) (z := 128) (by omega) (by omega)
      exact Part.of (m := [160, 128]) hg he (by simp)
    · obtain ⟨r, hg, he⟩ := enc_three (h := h) (y := y) (z := 128) (by omega) (by omega)
      exact Part.of (m := [128]) hg he (by simp)
  · refine fin 3 3 0 128 191 q (by decide) (by decide) (by decide) (by decide) rfl rfl (by decide) (fun _ => ?_) (fun y _ h1 h2 => ?_) (fun _ _ h => by omega)
    · obtain ⟨r, hg, he⟩ := enc_three (h := h) (y := 128) (z := 128) (by omega) (by omega)
      exact Part.of (m := [128, 128]) hg he (by simp)
    · obtain ⟨r, hg, he⟩ := enc_three (h := h) (y := y) (z := 128) (by omega) (by omega)
      exact Part.of (m := [128]) hg he (by simp)
  · refine fin 35 3 2 128 159 q (by decide) (by decide) (by decide) (by decide) rfl rfl (by decide) (fun _ => ?_) (fun y _ h1 h2 => ?_) (fun _ _ h => by omega)
    · obtain ⟨r, hg, he⟩ := enc_three (h := h) (y := 128) (z := 128) (by omega) (by omega)
      exact Part.of (m := [128, 128]) hg he (by simp)
    · obtain ⟨r, hg, he⟩ := enc_three (h := h) (y := y) (z := 128) (by omega) (by omega)
      exact Part.of (m := [128]) hg he (by simp)
  · refine fin 52 4 3 144 191 q (by decide) (by decide) (by decide) (by decide) rfl rfl (by decide) (fun _ => ?_) (fun y _ h1 h2 => ?_) (fun y z _ h1 h2 h3 h4 => ?_)
    · obtain ⟨r, hg, he⟩ := enc_four' (h := h) (y := 144) (z := 128) (u := 128) (by omega) (by omega) (by omega)
      exact Part.of (m := [144, 128, 128]) hg he (by simp)
    · obtain ⟨r, hg, he⟩ := enc_four' (h := h) (y := y) (z := 128) (u := 128) (by omega) (by omega) (by omega)
      exact Part.of (m := [128, 128]) hg he (by simp)
    · obtain ⟨r, hg, he⟩ := enc_four' (h := h) (y := y) (z := z) (u := 128) (by omega) (by omega) (by omega)
      exact Part.of (m := [128]) hg he (by simp)
  · refine fin 4 4 0 128 191 q (by decide) (by decide) (by decide) (by decide) rfl rfl (by decide) (fun _ => ?_) (fun y _ h1 h2 => ?_) (fun y z _ h1 h2 h3 h4 => ?_)
    · obtain ⟨r, hg, he⟩ := enc_four' (h := h) (y := 128) (z := 128) (u := 128) (by omega) (by omega) (by omega)
      exact Part.of (m := [128, 128, 128]) hg he (by simp)
    · obtain ⟨r, hg, he⟩ := enc_four' (h := h) (y := y) (z := 128) (u := 128) (by omega) (by omega) (by omega)
      exact Part.of (m := [128, 128]) hg he (by simp)
    · obtain ⟨r, hg, he⟩ := enc_four' (h := h) (y := y) (z := z) (u := 128) (by omega) (by omega) (by omega)
      exact Part.of (m := [128]) hg he (by simp)
  · refine fin 68 4 4 128 143 q (by decide) (by decide) (by decide) (by decide) rfl rfl (by decide) (fun _ => ?_) (fun y _ h1 h2 => ?_) (fun y z _ h1 h2 h3 h4 => ?_)
    · obtain ⟨r, hg, he⟩ := enc_four' (h := h) (y := 128) (z := 128) (u := 128) (by omega) (by omega) (by omega)
      exact Part.of (m := [128, 128, 128]) hg he (by simp)
    · obtain ⟨r, hg, he⟩ := enc_four' (h := h) (y := y) (z := 128) (u := 128) (by omega) (by omega) (by omega)
      exact Part.of (m := [128, 128]) hg he (by simp)
    · obtain ⟨r, hg, he⟩ := enc_four' (h := h) (y := y) (z := z) (u := 128) (by omega) (by omega) (by omega)
      exact Part.of (m := [128]) hg he (by simp)

open Classical in
/-- whether some bytes begin with a full rune -/
noncomputable def fullB (l : List Int) : Bool := decide (¬ Part l)
theorem fullB_false {l : List Int} (h : Part l) : fullB l = false := by unfold fullB; simp [h]
theorem fullB_true {l : List Int} (h : ¬ Part l) : fullB l = true := by unfold fullB; simp [h]
theorem fullRune_any {A : Option Addr} {l : List Int} {c : Nat} {w : World} (hr : Rd w .u8 A l) (hby : Bytes l) (hT : Tabs w) :
    Calls Tryd.prog 30 #[.slice A l.length c] w fun e w' => e = .returned (.bool (fullB l)) ∧ Below w.heap.size w w' := by
  by_cases hP : Part l
  · rw [fullB_false hP]; exact fullRune_part hr hP hT
  · rw [fullB_true hP]
    refine fullRune_full hr hby ?_ hP hT
    cases l with
    | nil => exact absurd Part.nil hP
    | cons x l => simp
set_option maxHeartbeats 2000000 in
theorem fullEach_any {A : Option Addr} {vs : List Value} {ls : List (List Int)} {c base : Nat} {w : World} (hv : RdV w A vs) (hp : PcsO w base vs ls) (hB : ∀ l ∈ ls, Bytes l) (hT : Tabs w) (hl : vs.length ≤ 16777216) :
    Calls Tryd.prog 20 #[.slice A vs.length c] w (MadeB w 4 (ls.map fullB)) := by
  have HB := Lib.hid hB
  clear hB
  go_enter Tryd.func20, Tryd.ntmps20
  go_wp2
  go_loopw [3, 9] (fun v i wr => ∃ (k : Nat) (A : Option Addr) (c : Nat) (acc : List Bool), k ≤ vs.length ∧ acc.length ≤ k ∧ i = .int .i64 k ∧ Hid (acc = (ls.take k).map fullB) ∧ v = .slice A acc.length c ∧ OwnB wr w.heap.size 4 (.slice A acc.length c) acc ∧ Below w.heap.size w wr)
    (fun _ i _ => vs.length - (intOf i).toNat)
  case atStart => exact ⟨0, _, 0, [], Nat.zero_le _, Nat.le_refl _, rfl, rfl, rfl, OwnB.empty _ _, (Below.refl _ _).alloc (Nat.le_refl _) _⟩
  case round =>
    obtain ⟨k, A2, c2, acc, hk, hak, rfl, hacc, rfl, hown, hbel⟩ := hrel
    have hsz := hbel.size
    by_cases hlt : k < vs.length
    · obtain ⟨b, off, v, hA, hb, hvk, hcv⟩ := (hv.next hbel).at_ hlt
      obtain ⟨l, Ap, cp, hlk, hvp, op⟩ := (hp.next hbel).at_ (j := k) (by rw [← hp.1]; exact hlt)
      rw [hvk] at hvp; injection hvp with hvp
      subst hvp hA
      have hBl := HB.out l (List.mem_of_getElem? hlk)
      have HT : Hid ((ls.take (k + 1)).map fullB = (ls.take k).map fullB ++ [fullB l]) := by show _ = _; rw [List.take_add_one, hlk, List.map_append]; rfl
      have h1 : (k : Int) < (vs.length : Int) := by omega
      have hq1 : acc.length + 1 ≤ 140737488355328 := by omega
      have rp := op.rd
      have hT1 := hT.next hbel
      clear hvk hlk op
      generalize hq : fullB l = q at *
      have HC := Lib.hid (fullRune_any (c := cp) rp hBl hT1)
      rw [hq] at HC
      clear hq
      go_wp2_with (first
        | (go_at_call 30; refine HC.out.mono ?_; rintro e w1 ⟨rfl, l1⟩; have hown1 := hown.next l1; have hs1 := Nat.le_trans hsz l1.size)
        | (at_builtin; refine wpList_app1b w1 rfl _ _ 23 rfl w.heap.size 4 Tryd.underlying23 info_bool q hown1 rfl rfl hq1 hs1 ?_; intro A3 c3 acc1 w3 he1 hown3 hg3))
      have hb3 := hg3.below_newB hown1 hs1
      have hz : acc1.length ≤ k + 1 := by rw [he1.out, List.length_append]; simp; omega
      have hfin := (bnext hbel l1).trans hb3
      clear hown hown1 hg3 l1
      go_roundw
      case rel => exact ⟨k + 1, A3, c3, acc1, by omega, hz, by go_num, by show _ = _; rw [he1.out, hacc.out, HT.out], rfl, hown3, hfin⟩
      case measure => simp [intOf]; omega
    · have h1 : ¬ (k : Int) < (vs.length : Int) := by omega
      go_wp2
      go_ret
      refine ⟨A2, c2, acc, ?_, rfl, hown, hbel⟩
      show _ = _
      rw [hacc.out, List.take_of_length_le (by rw [← hp.1]; omega)]
end Go.Proofs.YtbjigbhjnmcdgaaDoor
