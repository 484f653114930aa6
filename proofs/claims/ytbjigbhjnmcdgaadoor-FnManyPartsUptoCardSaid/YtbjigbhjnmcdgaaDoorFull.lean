/- Contract of utf8.FullRune at the beginning of an encoding. -/
import Derived.Test.YtbjigbhjnmcdgaaDoorDecBytes
import Derived.Test.YtbjigbhjnmcdgaaDoorPieces
import Derived.Test.YtbjigbhjnmcdgaaDoorQuiet
import Derived.Deep.QuietTactic
set_option linter.unusedVariables false
namespace Go.Proofs.YtbjigbhjnmcdgaaDoor
open Go.RowKit P

theorem lead_facts {r : Int} (hg : good r = true) (hs : 2 ≤ (enc r).length) : ∃ (h : Nat) (y : Int) (t : List Int), enc r = (h : Int) :: y :: t ∧ h < 256 ∧ (∀ z, t[0]? = some z → 128 ≤ z ∧ z ≤ 191) ∧
    ((Lib.firstT h = 2 ∧ (enc r).length = 2 ∧ 128 ≤ y ∧ y ≤ 191) ∨ (Lib.firstT h = 19 ∧ (enc r).length = 3 ∧ 160 ≤ y ∧ y ≤ 191) ∨ (Lib.firstT h = 3 ∧ (enc r).length = 3 ∧ 128 ≤ y ∧ y ≤ 191) ∨ (Lib.firstT h = 35 ∧ (enc r).length = 3 ∧ 128 ≤ y ∧ y ≤ 159) ∨
     (Lib.firstT h = 52 ∧ (enc r).length = 4 ∧ 144 ≤ y ∧ y ≤ 191) ∨ (Lib.firstT h = 4 ∧ (enc r).length = 4 ∧ 128 ≤ y ∧ y ≤ 191) ∨ (Lib.firstT h = 68 ∧ (enc r).length = 4 ∧ 128 ≤ y ∧ y ≤ 143)) := by
  rcases enc_forms hg with ⟨a, b, e⟩ | ⟨a, b, e⟩ | ⟨a, b, c, e⟩ | ⟨a, b, e⟩
  · rw [e] at hs; simp at hs
  · refine ⟨(192 + r / 64).toNat, 128 + r % 64, [], ?_, by omega, fun z hz => by simp at hz, .inl ⟨?_, by rw [e]; rfl, by omega, by omega⟩⟩
    · rw [e, show (((192 + r / 64).toNat : Nat) : Int) = 192 + r / 64 by omega]
    · unfold Lib.firstT; rw [if_neg (by omega), if_neg (by omega), if_pos (by omega)]
  · refine ⟨(224 + r / 4096).toNat, 128 + r / 64 % 64, [128 + r % 64], ?_, by omega, fun z hz => by simp at hz; omega, ?_⟩
    · rw [e, show (((224 + r / 4096).toNat : Nat) : Int) = 224 + r / 4096 by omega]
    · have hl : (enc r).length = 3 := by rw [e]; rfl
      rcases (by omega : r / 4096 = 0 ∨ r / 4096 = 13 ∨ (r / 4096 ≠ 0 ∧ r / 4096 ≠ 13)) with h | h | ⟨h, h'⟩
      · refine .inr (.inl ⟨?_, hl, by omega, by omega⟩)
        rw [h]; rfl
      · refine .inr (.inr (.inr (.inl ⟨?_, hl, by omega, by omega⟩)))
        rw [h]; rfl
      · refine .inr (.inr (.inl ⟨?_, hl, by omega, by omega⟩))
        unfold Lib.firstT
        rw [if_neg (by omega), if_neg (by omega), if_neg (by omega), if_neg (by omega)]
        by_cases h2 : (224 + r / 4096).toNat < 237
        · rw [if_pos h2]
        · rw [if_neg h2, if_neg (by omega), if_pos (by omega)]
  · refine ⟨(240 + r / 262144).toNat, 128 + r / 4096 % 64, [128 + r / 64 % 64, 128 + r % 64], ?_, by omega, fun z hz => by simp at hz; omega, ?_⟩
    · rw [e, show (((240 + r / 262144).toNat : Nat) : Int) = 240 + r / 262144 by omega]
    · have hl : (enc r).length = 4 := by rw [e]; rfl
      rcases (by omega : r / 262144 = 0 ∨ r / 262144 = 4 ∨ (r / 262144 ≠ 0 ∧ r / 262144 ≠ 4)) with h | h | ⟨h, h'⟩
      · refine .inr (.inr (.inr (.inr (.inl ⟨?_, hl, by omega, by omega⟩))))
        rw [h]; rfl
      · refine .inr (.inr (.inr (.inr (.inr (.inr ⟨?_, hl, by omega, by omega⟩)))))
        rw [h]; rfl
      · refine .inr (.inr (.inr (.inr (.inr (.inl ⟨?_, hl, by omega, by omega⟩)))))
        unfold Lib.firstT
        rw [if_neg (by omega), if_neg (by omega), if_neg (by omega), if_neg (by omega), if_neg (by omega), if_neg (by omega), if_neg (by omega), if_neg (by omega), if_pos (by omega)]

set_option maxHeartbeats 4000000 in
set_option maxRecDepth 1000000 in
theorem fullRune_one {b off c h a s : Nat} {w : World} {lo hi : Int} (X : Int) (hs0 : w.cell? ⟨b, off, none⟩ = some (.int .u8 (h : Int))) (hh : h < 256) (hc0 : w.cell? ⟨0, h, none⟩ = some (.int .u8 X)) (h7 : bits .and .u8 X 7 = (s : Int)) (hs : 1 < s) (hs4 : s ≤ 4)
    (h4 : X / 16 = (a : Int)) (hX0 : 0 ≤ X) (hX1 : X < 256) (ha : a < 16) (ha0 : w.cell? ⟨1, a * 2, none⟩ = some (.int .u8 lo)) (ha1 : w.cell? ⟨1, a * 2 + 1, none⟩ = some (.int .u8 hi)) :
    Calls Tryd.prog 30 #[.slice (some ⟨b, off, none⟩) 1 c] w fun e w' => e = .returned (.bool false) ∧ Below w.heap.size w w' := by
  have hb : b < w.heap.size := World.block_lt_of_cell? w _ hs0
  go_enter Tryd.func30, Tryd.ntmps30
  go_wp2
  go_quiet (fail)
  go_wp2
  go_ret
  exact ⟨rfl, bdrewN ((Below.refl _ _).alloc (Nat.le_refl _) _) _⟩
set_option maxHeartbeats 4000000 in
set_option maxRecDepth 1000000 in
theorem fullRune_two {b off c h a s : Nat} {w : World} {lo hi : Int} (X : Int) (hs0 : w.cell? ⟨b, off, none⟩ = some (.int .u8 (h : Int))) (hh : h < 256) (hc0 : w.cell? ⟨0, h, none⟩ = some (.int .u8 X)) (h7 : bits .and .u8 X 7 = (s : Int)) (hs : 2 < s) (hs4 : s ≤ 4)
    (h4 : X / 16 = (a : Int)) (hX0 : 0 ≤ X) (hX1 : X < 256) (ha : a < 16) (ha0 : w.cell? ⟨1, a * 2, none⟩ = some (.int .u8 lo)) (ha1 : w.cell? ⟨1, a * 2 + 1, none⟩ = some (.int .u8 hi)) {y : Int} (hy : w.cell? ⟨b, off + 1, none⟩ = some (.int .u8 y)) (hlo : lo ≤ y) (hhi : y ≤ hi) :
    Calls Tryd.prog 30 #[.slice (some ⟨b, off, none⟩) 2 c] w fun e w' => e = .returned (.bool false) ∧ Below w.heap.size w w' := by
  have hb : b < w.heap.size := World.block_lt_of_cell? w _ hs0
  have hlo' : ¬ y < lo := by omega
  have hhi' : ¬ hi < y := by omega
  go_enter Tryd.func30, Tryd.ntmps30
  go_wp2
  go_quiet (fail)
  go_wp2
  go_ret
  exact ⟨rfl, bdrewN ((Below.refl _ _).alloc (Nat.le_refl _) _) _⟩
set_option maxHeartbeats 4000000 in
set_option maxRecDepth 1000000 in
theorem fullRune_three {b off c h a s : Nat} {w : World} {lo hi : Int} (X : Int) (hs0 : w.cell? ⟨b, off, none⟩ = some (.int .u8 (h : Int))) (hh : h < 256) (hc0 : w.cell? ⟨0, h, none⟩ = some (.int .u8 X)) (h7 : bits .and .u8 X 7 = (s : Int)) (hs : 3 < s) (hs4 : s ≤ 4)
    (h4 : X / 16 = (a : Int)) (hX0 : 0 ≤ X) (hX1 : X < 256) (ha : a < 16) (ha0 : w.cell? ⟨1, a * 2, none⟩ = some (.int .u8 lo)) (ha1 : w.cell? ⟨1, a * 2 + 1, none⟩ = some (.int .u8 hi)) {y z : Int} (hy : w.cell? ⟨b, off + 1, none⟩ = some (.int .u8 y)) (hlo : lo ≤ y) (hhi : y ≤ hi) (hz : w.cell? ⟨b, off + 2, none⟩ = some (.int .u8 z)) (hz0 : 128 ≤ z) (hz1 : z ≤ 191) :
    Calls Tryd.prog 30 #[.slice (some ⟨b, off, none⟩) 3 c] w fun e w' => e = .returned (.bool false) ∧ Below w.heap.size w w' := by
  have hb : b < w.heap.size := World.block_lt_of_cell? w _ hs0
  have hlo' : ¬ y < lo := by omega
  have hhi' : ¬ hi < y := by omega
  go_enter Tryd.func30, Tryd.ntmps30
  go_wp2
  go_quiet (fail)
  go_wp2
  go_ret
  exact ⟨rfl, bdrewN ((Below.refl _ _).alloc (Nat.le_refl _) _) _⟩
/-- the beginning of an encoding, not all of it -/
def Part (l : List Int) : Prop := ∃ r p, good r = true ∧ p < (enc r).length ∧ l = (enc r).take p
theorem Part.nil : Part [] := ⟨97, 0, by decide, by have := (enc_len 97).1; omega, rfl⟩

set_option maxHeartbeats 1000000 in
theorem fullRune_part {A : Option Addr} {l : List Int} {c : Nat} {w : World} (hr : Rd w .u8 A l) (hP : Part l) (hT : Tabs w) :
    Calls Tryd.prog 30 #[.slice A l.length c] w fun e w' => e = .returned (.bool false) ∧ Below w.heap.size w w' := by
  obtain ⟨r, p, hg, hp, hl⟩ := hP
  have hlen : l.length = p := by rw [hl, List.length_take]; omega
  rw [hlen]
  rcases (by omega : p = 0 ∨ 1 ≤ p) with h0 | h1
  · subst h0
    clear hr hl hlen hp
    go_enter Tryd.func30, Tryd.ntmps30
    go_wp2
    go_ret
    exact ⟨rfl, Below.refl _ _⟩
  · obtain ⟨h, y, t, he, hh, ht, hcls⟩ := lead_facts hg (by omega)
    obtain ⟨b, off, rfl, hb, hc⟩ := hr (by omega)
    have s0 : w.cell? ⟨b, off, none⟩ = some (.int .u8 (h : Int)) := by
      have := hc 0 (h : Int) (by rw [hl, he, List.getElem?_take, if_pos (by omega)]; rfl)
      simpa using this
    have s1 : 2 ≤ p → w.cell? ⟨b, off + 1, none⟩ = some (.int .u8 y) := fun h2 =>
      hc 1 y (by rw [hl, he, List.getElem?_take, if_pos (by omega)]; rfl)
    have fin : ∀ (X s a lo hi : Nat), Lib.firstT h = X → bits .and .u8 (X : Int) 7 = (s : Int) → (enc r).length = s → (X : Int) / 16 = (a : Int) → X < 256 → a < 16 → Lib.accLo a = lo → Lib.accHi a = hi → (lo : Int) ≤ y → y ≤ (hi : Int) →
        Calls Tryd.prog 30 #[.slice (some ⟨b, off, none⟩) p c] w fun e w' => e = .returned (.bool false) ∧ Below w.heap.size w w' := by
      intro X s a lo hi e1 e2 e3 e4 e5 e6 e7 e8 e9 e10
      have c0 := hT.1 h hh
      rw [e1] at c0
      have a0 := (hT.2 a e6).1
      have a1 := (hT.2 a e6).2
      rw [e7] at a0
      rw [e8] at a1
      rw [Nat.mul_comm] at a0 a1
      have hs4 : s ≤ 4 := by have := (enc_len r).2; omega
      rcases (by omega : p = 1 ∨ p = 2 ∨ p = 3) with q | q | q
      · subst q
        exact fullRune_one (X : Int) s0 hh c0 e2 (by omega) hs4 e4 (by omega) (by omega) e6 a0 a1
      · subst q
        exact fullRune_two (X : Int) s0 hh c0 e2 (by omega) hs4 e4 (by omega) (by omega) e6 a0 a1 (s1 (by omega)) e9 e10
      · subst q
        obtain ⟨z, hz⟩ : ∃ z, t[0]? = some z := by
          cases t with
          | nil => have := congrArg List.length he; simp at this; omega
          | cons z t => exact ⟨z, rfl⟩
        have hz2 := ht z hz
        have s2 := hc 2 z (by rw [hl, he, List.getElem?_take, if_pos (by omega)]; simpa using hz)
        exact fullRune_three (X : Int) s0 hh c0 e2 (by omega) hs4 e4 (by omega) (by omega) e6 a0 a1 (s1 (by omega)) e9 e10 s2 hz2.1 hz2.2
    rcases hcls with ⟨q1, q2, q3, q4⟩ | ⟨q1, q2, q3, q4⟩ | ⟨q1, q2, q3, q4⟩ | ⟨q1, q2, q3, q4⟩ | ⟨q1, q2, q3, q4⟩ | ⟨q1, q2, q3, q4⟩ | ⟨q1, q2, q3, q4⟩
    · exact fin 2 2 0 128 191 q1 (by decide) q2 (by decide) (by decide) (by decide) rfl rfl (by omega) (by omega)
    · exact fin 19 3 1 160 191 q1 (by decide) q2 (by decide) (by decide) (by decide) rfl rfl (by omega) (by omega)
    · exact fin 3 3 0 128 191 q1 (by decide) q2 (by decide) (by decide) (by decide) rfl rfl (by omega) (by omega)
    · exact fin 35 3 2 128 159 q1 (by decide) q2 (by decide) (by decide) (by decide) rfl rfl (by omega) (by omega)
    · exact fin 52 4 3 144 191 q1 (by decide) q2 (by decide) (by decide) (by decide) rfl rfl (by omega) (by omega)
    · exact fin 4 4 0 128 191 q1 (by decide) q2 (by decide) (by decide) (by decide) rfl rfl (by omega) (by omega)
    · exact fin 68 4 4 128 143 q1 (by decide) q2 (by decide) (by decide) (by decide) rfl rfl (by omega) (by omega)
set_option maxHeartbeats 2000000 in
theorem fullEach_parts {A : Option Addr} {vs : List Value} {ls : List (List Int)} {c base : Nat} {w : World} (hv : RdV w A vs) (hp : PcsO w base vs ls) (hP : ∀ l ∈ ls, Part l) (hT : Tabs w) (hl : vs.length ≤ 16777216) :
    Calls Tryd.prog 20 #[.slice A vs.length c] w (MadeB w 4 (List.replicate vs.length false)) := by
  have HP := Lib.hid hP
  clear hP
  go_enter Tryd.func20, Tryd.ntmps20
  go_wp2
  go_loopw [3, 9] (fun v i wr => ∃ (k : Nat) (A : Option Addr) (c : Nat) (acc : List Bool), k ≤ vs.length ∧ acc.length ≤ k ∧ i = .int .i64 k ∧ Hid (acc = List.replicate k false) ∧ v = .slice A acc.length c ∧ OwnB wr w.heap.size 4 (.slice A acc.length c) acc ∧ Below w.heap.size w wr)
    (fun _ i _ => vs.length - (intOf i).toNat)
  case atStart => exact ⟨0, _, 0, [], Nat.zero_le _, Nat.le_refl _, rfl, rfl, rfl, OwnB.empty _ _, (Below.refl _ _).alloc (Nat.le_refl _) _⟩
  case round =>
    obtain ⟨k, A2, c2, acc, hk, hak, rfl, hacc, rfl, hown, hbel⟩ := hrel
    have hsz := hbel.size
    by_cases hlt : k < vs.length
    · obtain ⟨b, off, v, hA, hb, hvk, hcv⟩ := (hv.next hbel).at_ hlt
      obtain ⟨l, Ap, cp, hlk, hvp, op⟩ := (hp.next hbel).at_ (j := k) (by rw [← hp.1]; exact hlt)
      rw [hvk] at hvp; injection hvp with hvp
      subst hvp hA
      have hPl := HP.out l (List.mem_of_getElem? hlk)
      have h1 : (k : Int) < (vs.length : Int) := by omega
      have hq1 : acc.length + 1 ≤ 140737488355328 := by omega
      have rp := op.rd
      have hT1 := hT.next hbel
      clear hvk hlk op
      go_wp2_with (first
        | (go_at_call 30; refine (fullRune_part rp hPl hT1).mono ?_; rintro e w1 ⟨rfl, l1⟩; have hown1 := hown.next l1; have hs1 := Nat.le_trans hsz l1.size)
        | (at_builtin; refine wpList_app1b w1 rfl _ _ 23 rfl w.heap.size 4 Tryd.underlying23 info_bool false hown1 rfl rfl hq1 hs1 ?_; intro A3 c3 acc1 w3 he1 hown3 hg3))
      have hb3 := hg3.below_newB hown1 hs1
      have hz : acc1.length ≤ k + 1 := by rw [he1.out, List.length_append]; simp; omega
      have hfin := (bnext hbel l1).trans hb3
      clear hown hown1 hg3 l1
      go_roundw
      case rel => exact ⟨k + 1, A3, c3, acc1, by omega, hz, by go_num, by show _ = _; rw [he1.out, hacc.out, List.replicate_succ'], rfl, hown3, hfin⟩
      case measure => simp [intOf]; omega
    · have h1 : ¬ (k : Int) < (vs.length : Int) := by omega
      have hkv : k = vs.length := by omega
      go_wp2
      go_ret
      refine ⟨A2, c2, acc, ?_, rfl, hown, hbel⟩
      show _ = _
      rw [hacc.out, hkv]
end Go.Proofs.YtbjigbhjnmcdgaaDoor
