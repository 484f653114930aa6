/- Contracts of the helpers of exact.go. -/
import Derived.Test.YtcbfbccmghdpgaaDoorStep2
import Derived.Test.YtcbfbccmghdpgaaDoorScript
import Derived.Test.YtcbfbccmghdpgaaDoorAppB
import Derived.Test.YtcbfbccmghdpgaaDoorUnits2
import Derived.Laws.MakeOwn
import Derived.Laws.OwnMore
set_option linter.unusedVariables false
namespace Go.Proofs.YtcbfbccmghdpgaaDoor
open Go.RowKit P

/-- a row of n cells that is the call's own -/
def OwnN (w : World) (base : Nat) (e : TypeId) (v : Value) (n : Nat) (zs : List Value) : Prop := w.ownsRow base e 1 v n zs
section
variable {w w' : World} {base : Nat} {e : TypeId} {v : Value} {n c g : Nat} {zs : List Value} {A : Option Addr}
theorem OwnN.len (h : OwnN w base e v n zs) : zs.length = n := by simpa using h.1
theorem OwnN.at_ (h : OwnN w base e (.slice A n c) n zs) {j : Nat} (hj : j < n) : ∃ g u, A = some ⟨g, 0, none⟩ ∧ zs[j]? = some u ∧ w.cell? ⟨g, j, none⟩ = some u ∧ w.frozen? ⟨g, j, none⟩ = false ∧ base ≤ g ∧ g < w.heap.size := by
  rcases h.2 with ⟨_, h0⟩ | ⟨g, cap, cur, hv, hb, hg, _⟩
  · omega
  · injection hv with hA _ hc
    subst hA; subst hc
    have hz := h.len
    have h1 := World.ownsRow.cellAt h j (by omega)
    refine ⟨g, zs[j]'(by omega), rfl, List.getElem?_eq_getElem (by omega), ?_, World.ownsRow.frozenAt h j, hb, (Array.getElem?_eq_some_iff.1 hg).1⟩
    rw [h1]; exact List.getElem?_eq_getElem (by omega)
theorem OwnN.set (h : OwnN w base e (.slice (some ⟨g, 0, none⟩) n c) n zs) (j : Nat) (u : Value) : OwnN (w.setCell ⟨g, j, none⟩ u) base e (.slice (some ⟨g, 0, none⟩) n c) n (zs.set j u) := (World.ownsRow.stored h j u).1
theorem OwnN.upd (h : OwnN w base e (.slice (some ⟨g, 0, none⟩) n c) n zs) (j : Nat) (u : Value) : w.grownBy (w.setCell ⟨g, j, none⟩ u) (some g) := (World.ownsRow.stored h j u).2
theorem grown_refl (w : World) (row : Option Nat) : w.grownBy w row := ⟨rfl, rfl, rfl, Nat.le_refl _, fun _ _ _ => rfl⟩
theorem grown_trans {w1 w2 w3 : World} {row : Option Nat} (h : w1.grownBy w2 row) (k : w2.grownBy w3 row) : w1.grownBy w3 row :=
  ⟨k.os.trans h.os, k.tape.trans h.tape, k.output.trans h.output, Nat.le_trans h.size k.size, fun j hj hn => (k.block j (Nat.lt_of_lt_of_le hj h.size) hn).trans (h.block j hj hn)⟩
theorem OwnN.made (w : World) (e : TypeId) (z : Value) (n : Nat) (hm : n ≤ maxLen) : OwnN (w.alloc (.cells (madeCells #[z] n) e)) w.heap.size e (.slice (some ⟨w.heap.size, 0, none⟩) n n) n (madeCells #[z] n).toList :=
  World.ownsRow_lit w _ n (Nat.le_refl _) hm (by simp [madeCells])
theorem list_map_of {α : Type} (f : α → Value) (l : List α) (h1 : zs.length = l.length) (h2 : ∀ (j : Nat) x, l[j]? = some x → zs[j]? = some (f x)) : zs = l.map f := by
  apply List.ext_getElem?
  intro j
  by_cases hj : j < l.length
  · rw [h2 j _ (List.getElem?_eq_getElem hj)]; simp [hj]
  · rw [List.getElem?_eq_none (by omega), List.getElem?_eq_none (by simp; omega)]
theorem set_next {α : Type} {f : α → Value} {l : List α} {k : Nat} {x : α} (h : ∀ (j : Nat) x, j < k → l[j]? = some x → zs[j]? = some (f x)) (hx : l[k]? = some x) (hk : k < zs.length) :
    ∀ (j : Nat) y, j < k + 1 → l[j]? = some y → (zs.set k (f x))[j]? = some (f y) := by
  intro j y hj hy
  rw [List.getElem?_set]
  by_cases e : k = j
  · subst e
    rw [if_pos rfl, if_pos hk]
    rw [hx] at hy; injection hy with hy; rw [hy]
  · rw [if_neg e]; exact h j y (by omega) hy
end
theorem run_mkb {P : Program} (t e : TypeId) (ht : P.underlying t = some (.slice e)) (hinfo : (P.info? e).map (fun i => (i.zero, i.size, i.bytes)) = some (some (.bool false), 1, 1))
    (n : Nat) (h63 : n ≤ 281474976710656) (w : World) :
    (Instr.makeSlice t (.int .i64 (n : Int)) (.int .i64 (n : Int))).run P w = .ok (.slice (some ⟨w.heap.size, 0, none⟩) n n) (w.alloc (.cells (madeCells #[.bool false] n) e)) := by
  obtain ⟨i, hi, hz0, hz1, hz2⟩ := info_parts hinfo
  have hb' : (i.bytes : Int) * (n : Int) ≤ 281474976710656 := by
    rw [hz2]; omega
  have hr := run_make (P := P) w t e i (.bool false) ht hi hz0 .i64 .i64 n n (by omega) (by omega) hb' (by omega)
  simpa [hz1, Value.cells] using hr
/-- the numbers from k on -/
def up (k : Int) (n : Nat) : List Int := (List.range n).map fun (i : Nat) => k + (i : Int)
theorem up_len (k : Int) (n : Nat) : (up k n).length = n := by simp [up]
theorem up_at {k : Int} {n j : Nat} (hj : j < n) : (up k n)[j]? = some (k + (j : Int)) := by simp [up, hj]

set_option maxHeartbeats 1000000 in
theorem toByteS_any {A : Option Addr} {l : List Int} {c : Nat} {w : World} (hr : Rd w .u8 A l) (hl : l.length ≤ 1048576) :
    Calls Tryd.prog 36 #[.slice A l.length c] w (Made w 5 .u8 l) := by
  have hmk := run_mk (P := Tryd.prog) 29 5 .u8 1 Tryd.underlying29 info_u8 l.length l.length (Nat.le_refl _) (by omega) (by omega) w
  go_enter Tryd.func36, Tryd.ntmps36
  go_wp2
  have hm := OwnN.made w 5 (.int .u8 0) l.length (by unfold maxLen; omega)
  go_loopw [4] (fun v4 wr => ∃ (k : Nat) (zs : List Value), k ≤ l.length ∧ v4 = .int .i64 k ∧ OwnN wr w.heap.size 5 (.slice (some ⟨w.heap.size, 0, none⟩) l.length l.length) l.length zs ∧ Hid (∀ (j : Nat) x, j < k → l[j]? = some x → zs[j]? = some (Value.int .u8 x)) ∧ Below w.heap.size w wr)
    (fun v4 _ => l.length - (intOf v4).toNat)
  case atStart => exact ⟨0, _, Nat.zero_le _, rfl, hm, (fun j x h => absurd h (by omega)), (Below.refl _ _).alloc (Nat.le_refl _) _⟩
  case round =>
    clear hmk hm
    obtain ⟨k, zs, hk, rfl, ho, hI, hbel⟩ := hrel
    by_cases hlt : k < l.length
    · obtain ⟨b, off, x, rfl, hb, hxk, hcx⟩ := (hr.next hbel).at_ hlt
      obtain ⟨g, u, hg, hzu, hcu, hfu, _, hgl⟩ := ho.at_ hlt
      injection hg with hg
      injection hg with hg
      subst hg
      have HX := Lib.hid hxk
      have HI2 : Hid (∀ (j : Nat) y, j < k + 1 → l[j]? = some y → (zs.set k (Value.int .u8 x))[j]? = some (Value.int .u8 y)) := set_next hI.out hxk (by rw [ho.len]; exact hlt)
      have ho2 := ho.set k (Value.int .u8 x)
      have hb2 := hbel.setCell (show w.heap.size ≤ (⟨w.heap.size, k, none⟩ : Addr).block from Nat.le_refl _) (Value.int .u8 x)
      have h1 : (k : Int) < (l.length : Int) := by omega
      clear hxk hzu hI
      go_wp2
      go_roundw
      case rel => exact ⟨k + 1, _, by omega, by go_num, ho2, HI2, hb2⟩
      case measure => simp [intOf]; omega
    · have h1 : ¬ (k : Int) < (l.length : Int) := by omega
      have hz := list_map_of (Value.int .u8) l ho.len (fun j x hx => hI.out j x (by have := (List.getElem?_eq_some_iff.1 hx).1; omega) hx)
      subst hz
      clear hI
      go_wp2
      go_ret
      exact ⟨_, _, l, rfl, rfl, ho, hbel⟩

set_option maxHeartbeats 1000000 in
theorem toBoolS_any {A : Option Addr} {l : List Bool} {c : Nat} {w : World} (hr : RdB w A l) (hl : l.length ≤ 1048576) :
    Calls Tryd.prog 37 #[.slice A l.length c] w (MadeB w 4 l) := by
  have hmk := run_mkb (P := Tryd.prog) 23 4 Tryd.underlying23 info_bool l.length (by omega) w
  go_enter Tryd.func37, Tryd.ntmps37
  go_wp2
  have hm := OwnN.made w 4 (.bool false) l.length (by unfold maxLen; omega)
  go_loopw [4] (fun v4 wr => ∃ (k : Nat) (zs : List Value), k ≤ l.length ∧ v4 = .int .i64 k ∧ OwnN wr w.heap.size 4 (.slice (some ⟨w.heap.size, 0, none⟩) l.length l.length) l.length zs ∧ Hid (∀ (j : Nat) x, j < k → l[j]? = some x → zs[j]? = some (Value.bool x)) ∧ Below w.heap.size w wr)
    (fun v4 _ => l.length - (intOf v4).toNat)
  case atStart => exact ⟨0, _, Nat.zero_le _, rfl, hm, (fun j x h => absurd h (by omega)), (Below.refl _ _).alloc (Nat.le_refl _) _⟩
  case round =>
    clear hmk hm
    obtain ⟨k, zs, hk, rfl, ho, hI, hbel⟩ := hrel
    by_cases hlt : k < l.length
    · obtain ⟨b, off, x, rfl, hb, hxk, hcx⟩ := (hr.next hbel).at_ hlt
      obtain ⟨g, u, hg, hzu, hcu, hfu, _, hgl⟩ := ho.at_ hlt
      injection hg with hg
      injection hg with hg
      subst hg
      have HX := Lib.hid hxk
      have HI2 : Hid (∀ (j : Nat) y, j < k + 1 → l[j]? = some y → (zs.set k (Value.bool x))[j]? = some (Value.bool y)) := set_next hI.out hxk (by rw [ho.len]; exact hlt)
      have ho2 := ho.set k (Value.bool x)
      have hb2 := hbel.setCell (show w.heap.size ≤ (⟨w.heap.size, k, none⟩ : Addr).block from Nat.le_refl _) (Value.bool x)
      have h1 : (k : Int) < (l.length : Int) := by omega
      clear hxk hzu hI
      go_wp2
      go_roundw
      case rel => exact ⟨k + 1, _, by omega, by go_num, ho2, HI2, hb2⟩
      case measure => simp [intOf]; omega
    · have h1 : ¬ (k : Int) < (l.length : Int) := by omega
      have hz := list_map_of (Value.bool) l ho.len (fun j x hx => hI.out j x (by have := (List.getElem?_eq_some_iff.1 hx).1; omega) hx)
      subst hz
      clear hI
      go_wp2
      go_ret
      exact ⟨_, _, l, rfl, rfl, ho, hbel⟩

set_option maxHeartbeats 1000000 in
theorem eqInt32S_same {A A' : Option Addr} {l : List Int} {c c' n : Nat} {w : World} (hx : Rd w .i32 A l) (hy : Rd w .i32 A' l) (hn : l.length = n) (hl : n ≤ 1048576) :
    Calls Tryd.prog 38 #[.slice A n c, .slice A' n c'] w fun e w' => e = .returned (.bool true) ∧ ∃ m, w' = w.drewN m := by
  subst hn
  go_enter Tryd.func38, Tryd.ntmps38
  go_wp2
  go_loopw [5] (fun i wr => ∃ k n : Nat, k ≤ l.length ∧ i = .int .i64 k ∧ wr = w.drewN n) (fun i _ => l.length - (intOf i).toNat)
  case atStart => exact ⟨0, 0, Nat.zero_le _, rfl, rfl⟩
  case round =>
    obtain ⟨k, n, hk, rfl, rfl⟩ := hrel
    by_cases hlt : k < l.length
    · obtain ⟨b, off, x, rfl, hb, hxk, hcx⟩ := hx.at_ hlt
      obtain ⟨b', off', y, rfl, hb', hyk, hcy⟩ := hy.at_ hlt
      obtain rfl : x = y := by rw [hxk] at hyk; injection hyk
      clear hxk hyk
      have h1 : (k : Int) < (l.length : Int) := by omega
      go_wp2
      go_quiet (fail)
      go_wp2
      go_roundw
      case rel => exact ⟨k + 1, _, by omega, by go_num, rfl⟩
      case measure => simp [intOf]; omega
    · have h1 : ¬ (k : Int) < (l.length : Int) := by omega
      go_wp2
      go_ret
      exact ⟨rfl, _, rfl⟩

set_option maxHeartbeats 1000000 in
theorem eqIntS_same {A A' : Option Addr} {l : List Int} {c c' n : Nat} {w : World} (hx : Rd w .i64 A l) (hy : Rd w .i64 A' l) (hn : l.length = n) (hl : n ≤ 1048576) :
    Calls Tryd.prog 39 #[.slice A n c, .slice A' n c'] w fun e w' => e = .returned (.bool true) ∧ ∃ m, w' = w.drewN m := by
  subst hn
  go_enter Tryd.func39, Tryd.ntmps39
  go_wp2
  go_loopw [5] (fun i wr => ∃ k n : Nat, k ≤ l.length ∧ i = .int .i64 k ∧ wr = w.drewN n) (fun i _ => l.length - (intOf i).toNat)
  case atStart => exact ⟨0, 0, Nat.zero_le _, rfl, rfl⟩
  case round =>
    obtain ⟨k, n, hk, rfl, rfl⟩ := hrel
    by_cases hlt : k < l.length
    · obtain ⟨b, off, x, rfl, hb, hxk, hcx⟩ := hx.at_ hlt
      obtain ⟨b', off', y, rfl, hb', hyk, hcy⟩ := hy.at_ hlt
      obtain rfl : x = y := by rw [hxk] at hyk; injection hyk
      clear hxk hyk
      have h1 : (k : Int) < (l.length : Int) := by omega
      go_wp2
      go_quiet (fail)
      go_wp2
      go_roundw
      case rel => exact ⟨k + 1, _, by omega, by go_num, rfl⟩
      case measure => simp [intOf]; omega
    · have h1 : ¬ (k : Int) < (l.length : Int) := by omega
      go_wp2
      go_ret
      exact ⟨rfl, _, rfl⟩

set_option maxHeartbeats 1000000 in
theorem eqByteS_same {A A' : Option Addr} {l : List Int} {c c' n : Nat} {w : World} (hx : Rd w .u8 A l) (hy : Rd w .u8 A' l) (hn : l.length = n) (hl : n ≤ 1048576) :
    Calls Tryd.prog 40 #[.slice A n c, .slice A' n c'] w fun e w' => e = .returned (.bool true) ∧ ∃ m, w' = w.drewN m := by
  subst hn
  go_enter Tryd.func40, Tryd.ntmps40
  go_wp2
  go_loopw [5] (fun i wr => ∃ k n : Nat, k ≤ l.length ∧ i = .int .i64 k ∧ wr = w.drewN n) (fun i _ => l.length - (intOf i).toNat)
  case atStart => exact ⟨0, 0, Nat.zero_le _, rfl, rfl⟩
  case round =>
    obtain ⟨k, n, hk, rfl, rfl⟩ := hrel
    by_cases hlt : k < l.length
    · obtain ⟨b, off, x, rfl, hb, hxk, hcx⟩ := hx.at_ hlt
      obtain ⟨b', off', y, rfl, hb', hyk, hcy⟩ := hy.at_ hlt
      obtain rfl : x = y := by rw [hxk] at hyk; injection hyk
      clear hxk hyk
      have h1 : (k : Int) < (l.length : Int) := by omega
      go_wp2
      go_quiet (fail)
      go_wp2
      go_roundw
      case rel => exact ⟨k + 1, _, by omega, by go_num, rfl⟩
      case measure => simp [intOf]; omega
    · have h1 : ¬ (k : Int) < (l.length : Int) := by omega
      go_wp2
      go_ret
      exact ⟨rfl, _, rfl⟩

set_option maxHeartbeats 1000000 in
theorem eqBoolS_same {A A' : Option Addr} {l : List Bool} {c c' n : Nat} {w : World} (hx : RdB w A l) (hy : RdB w A' l) (hn : l.length = n) (hl : n ≤ 1048576) :
    Calls Tryd.prog 41 #[.slice A n c, .slice A' n c'] w fun e w' => e = .returned (.bool true) ∧ ∃ m, w' = w.drewN m := by
  subst hn
  go_enter Tryd.func41, Tryd.ntmps41
  go_wp2
  go_loopw [5] (fun i wr => ∃ k n : Nat, k ≤ l.length ∧ i = .int .i64 k ∧ wr = w.drewN n) (fun i _ => l.length - (intOf i).toNat)
  case atStart => exact ⟨0, 0, Nat.zero_le _, rfl, rfl⟩
  case round =>
    obtain ⟨k, n, hk, rfl, rfl⟩ := hrel
    by_cases hlt : k < l.length
    · obtain ⟨b, off, x, rfl, hb, hxk, hcx⟩ := hx.at_ hlt
      obtain ⟨b', off', y, rfl, hb', hyk, hcy⟩ := hy.at_ hlt
      obtain rfl : x = y := by rw [hxk] at hyk; injection hyk
      clear hxk hyk
      have h1 : (k : Int) < (l.length : Int) := by omega
      go_wp2
      go_quiet (fail)
      go_wp2
      go_roundw
      case rel => exact ⟨k + 1, _, by omega, by go_num, rfl⟩
      case measure => simp [intOf]; omega
    · have h1 : ¬ (k : Int) < (l.length : Int) := by omega
      go_wp2
      go_ret
      exact ⟨rfl, _, rfl⟩

set_option maxHeartbeats 1000000 in
theorem markByteS_any {A : Option Addr} {zs : List Value} {c n base : Nat} {w : World} (k0 : Int) (ho : OwnN w base 5 (.slice A n c) n zs) (h0 : 0 ≤ k0) (hk0 : k0 + n ≤ 2147483647) :
    Calls Tryd.prog 42 #[.slice A n c, .int .i64 k0] w fun e w' => e = .returned (.int .i64 (k0 + n)) ∧ w.grownBy w' (Value.slice A n c).ownBlock := by
  go_enter Tryd.func42, Tryd.ntmps42
  go_wp2
  go_loopw [1, 5] (fun v1 v5 wr => ∃ (j : Nat) (zs : List Value), j ≤ n ∧ v5 = .int .i64 j ∧ v1 = .int .i64 (k0 + j) ∧ OwnN wr base 5 (.slice A n c) n zs ∧ w.grownBy wr (Value.slice A n c).ownBlock) (fun _ v5 _ => n - (intOf v5).toNat)
  case atStart => exact ⟨0, zs, Nat.zero_le _, rfl, by simp, ho, grown_refl _ _⟩
  case round =>
    clear ho
    obtain ⟨j, zs, hj, rfl, rfl, ho, hgr⟩ := hrel
    by_cases hlt : j < n
    · obtain ⟨g, u, rfl, hzu, hcu, hfu, _, hgl⟩ := ho.at_ hlt
      have HS := fun u => And.intro (ho.set j u) (grown_trans hgr (ho.upd j u))
      have h1 : (j : Int) < (n : Int) := by omega
      clear hzu ho hgr
      go_wp2
      go_roundw
      case rel => exact ⟨j + 1, _, by omega, by go_num, by (first | go_num | (congr 1; omega)), (HS _).1, (HS _).2⟩
      case measure => simp [intOf]; omega
    · have h1 : ¬ (j : Int) < (n : Int) := by omega
      have hjn : j = n := by omega
      subst hjn
      go_wp2
      go_ret
      exact ⟨rfl, hgr⟩

set_option maxHeartbeats 1000000 in
theorem markBoolS_any {A : Option Addr} {zs : List Value} {c n base : Nat} {w : World} (k0 : Int) (ho : OwnN w base 4 (.slice A n c) n zs) (h0 : 0 ≤ k0) (hk0 : k0 + n ≤ 2147483647) :
    Calls Tryd.prog 43 #[.slice A n c, .int .i64 k0] w fun e w' => e = .returned (.int .i64 (k0 + n)) ∧ w.grownBy w' (Value.slice A n c).ownBlock := by
  go_enter Tryd.func43, Tryd.ntmps43
  go_wp2
  go_loopw [1, 5] (fun v1 v5 wr => ∃ (j : Nat) (zs : List Value), j ≤ n ∧ v5 = .int .i64 j ∧ v1 = .int .i64 (k0 + j) ∧ OwnN wr base 4 (.slice A n c) n zs ∧ w.grownBy wr (Value.slice A n c).ownBlock) (fun _ v5 _ => n - (intOf v5).toNat)
  case atStart => exact ⟨0, zs, Nat.zero_le _, rfl, by simp, ho, grown_refl _ _⟩
  case round =>
    clear ho
    obtain ⟨j, zs, hj, rfl, rfl, ho, hgr⟩ := hrel
    by_cases hlt : j < n
    · obtain ⟨g, u, rfl, hzu, hcu, hfu, _, hgl⟩ := ho.at_ hlt
      have HS := fun u => And.intro (ho.set j u) (grown_trans hgr (ho.upd j u))
      have h1 : (j : Int) < (n : Int) := by omega
      clear hzu ho hgr
      go_wp2
      go_roundw
      case rel => exact ⟨j + 1, _, by omega, by go_num, by (first | go_num | (congr 1; omega)), (HS _).1, (HS _).2⟩
      case measure => simp [intOf]; omega
    · have h1 : ¬ (j : Int) < (n : Int) := by omega
      have hjn : j = n := by omega
      subst hjn
      go_wp2
      go_ret
      exact ⟨rfl, hgr⟩

set_option maxHeartbeats 1000000 in
theorem markInt32S_any {A : Option Addr} {zs : List Value} {c n base : Nat} {w : World} (k0 : Int) (ho : OwnN w base 21 (.slice A n c) n zs) (h0 : 0 ≤ k0) (hk0 : k0 + n ≤ 2147483647) :
    Calls Tryd.prog 44 #[.slice A n c, .int .i64 k0] w fun e w' => e = .returned (.int .i64 (k0 + n)) ∧ w.grownBy w' (Value.slice A n c).ownBlock ∧ ∃ ys, Hid (ys = up k0 n) ∧ Own w' base 21 .i32 (.slice A n c) ys := by
  go_enter Tryd.func44, Tryd.ntmps44
  go_wp2
  go_loopw [1, 5] (fun v1 v5 wr => ∃ (j : Nat) (zs : List Value), j ≤ n ∧ v5 = .int .i64 j ∧ v1 = .int .i64 (k0 + j) ∧ OwnN wr base 21 (.slice A n c) n zs ∧ w.grownBy wr (Value.slice A n c).ownBlock ∧ Hid (∀ (i : Nat) x, i < j → (up k0 n)[i]? = some x → zs[i]? = some (.int .i32 x))) (fun _ v5 _ => n - (intOf v5).toNat)
  case atStart => exact ⟨0, zs, Nat.zero_le _, rfl, by simp, ho, grown_refl _ _, (fun i x h => absurd h (by omega))⟩
  case round =>
    clear ho
    obtain ⟨j, zs, hj, rfl, rfl, ho, hgr, hI⟩ := hrel
    by_cases hlt : j < n
    · obtain ⟨g, u, rfl, hzu, hcu, hfu, _, hgl⟩ := ho.at_ hlt
      have HS := And.intro (ho.set j (.int .i32 (k0 + j))) (grown_trans hgr (ho.upd j (.int .i32 (k0 + j))))
      have HI2 : Hid (∀ (i : Nat) x, i < j + 1 → (up k0 n)[i]? = some x → (zs.set j (Value.int .i32 (k0 + j)))[i]? = some (.int .i32 x)) := set_next (f := Value.int .i32) hI.out (up_at hlt) (by rw [ho.len]; exact hlt)
      have h1 : (j : Int) < (n : Int) := by omega
      clear hzu ho hgr hI
      go_wp2
      go_roundw
      case rel => exact ⟨j + 1, _, by omega, by go_num, by (first | go_num | (congr 1; omega)), HS.1, HS.2, HI2⟩
      case measure => simp [intOf]; omega
    · have h1 : ¬ (j : Int) < (n : Int) := by omega
      have hjn : j = n := by omega
      subst hjn
      have hz := list_map_of (Value.int .i32) (up k0 j) (by rw [ho.len, up_len]) (fun i x hx => hI.out i x (by have := (List.getElem?_eq_some_iff.1 hx).1; rw [up_len] at this; exact this) hx)
      subst hz
      clear hI
      go_wp2
      go_ret
      refine ⟨rfl, hgr, up k0 j, rfl, ?_⟩
      unfold Own; rw [up_len]; exact ho

set_option maxHeartbeats 1000000 in
theorem markIntS_any {A : Option Addr} {zs : List Value} {c n base : Nat} {w : World} (k0 : Int) (ho : OwnN w base 3 (.slice A n c) n zs) (h0 : 0 ≤ k0) (hk0 : k0 + n ≤ 2147483647) :
    Calls Tryd.prog 45 #[.slice A n c, .int .i64 k0] w fun e w' => e = .returned (.int .i64 (k0 + n)) ∧ w.grownBy w' (Value.slice A n c).ownBlock ∧ ∃ ys, Hid (ys = up k0 n) ∧ Own w' base 3 .i64 (.slice A n c) ys := by
  go_enter Tryd.func45, Tryd.ntmps45
  go_wp2
  go_loopw [1, 5] (fun v1 v5 wr => ∃ (j : Nat) (zs : List Value), j ≤ n ∧ v5 = .int .i64 j ∧ v1 = .int .i64 (k0 + j) ∧ OwnN wr base 3 (.slice A n c) n zs ∧ w.grownBy wr (Value.slice A n c).ownBlock ∧ Hid (∀ (i : Nat) x, i < j → (up k0 n)[i]? = some x → zs[i]? = some (.int .i64 x))) (fun _ v5 _ => n - (intOf v5).toNat)
  case atStart => exact ⟨0, zs, Nat.zero_le _, rfl, by simp, ho, grown_refl _ _, (fun i x h => absurd h (by omega))⟩
  case round =>
    clear ho
    obtain ⟨j, zs, hj, rfl, rfl, ho, hgr, hI⟩ := hrel
    by_cases hlt : j < n
    · obtain ⟨g, u, rfl, hzu, hcu, hfu, _, hgl⟩ := ho.at_ hlt
      have HS := And.intro (ho.set j (.int .i64 (k0 + j))) (grown_trans hgr (ho.upd j (.int .i64 (k0 + j))))
      have HI2 : Hid (∀ (i : Nat) x, i < j + 1 → (up k0 n)[i]? = some x → (zs.set j (Value.int .i64 (k0 + j)))[i]? = some (.int .i64 x)) := set_next (f := Value.int .i64) hI.out (up_at hlt) (by rw [ho.len]; exact hlt)
      have h1 : (j : Int) < (n : Int) := by omega
      clear hzu ho hgr hI
      go_wp2
      go_roundw
      case rel => exact ⟨j + 1, _, by omega, by go_num, by (first | go_num | (congr 1; omega)), HS.1, HS.2, HI2⟩
      case measure => simp [intOf]; omega
    · have h1 : ¬ (j : Int) < (n : Int) := by omega
      have hjn : j = n := by omega
      subst hjn
      have hz := list_map_of (Value.int .i64) (up k0 j) (by rw [ho.len, up_len]) (fun i x hx => hI.out i x (by have := (List.getElem?_eq_some_iff.1 hx).1; rw [up_len] at this; exact this) hx)
      subst hz
      clear hI
      go_wp2
      go_ret
      refine ⟨rfl, hgr, up k0 j, rfl, ?_⟩
      unfold Own; rw [up_len]; exact ho

set_option maxHeartbeats 1000000 in
theorem heldInt32S_any {A : Option Addr} {c n : Nat} {ys : List Int} {w : World} (k0 : Int) (hr : Rd w .i32 A ys) (hy : Hid (ys = up k0 n)) (h0 : 0 ≤ k0) (hk0 : k0 + n ≤ 2147483647) :
    Calls Tryd.prog 46 #[.slice A n c, .int .i64 k0] w fun e w' => e = .returned (.int .i64 (k0 + n)) ∧ w' = w := by
  go_enter Tryd.func46, Tryd.ntmps46
  go_wp2
  go_loopw [1, 5] (fun v1 v5 wr => ∃ (j : Nat), j ≤ n ∧ v5 = .int .i64 j ∧ v1 = .int .i64 (k0 + j) ∧ wr = w) (fun _ v5 _ => n - (intOf v5).toNat)
  case atStart => exact ⟨0, Nat.zero_le _, rfl, by simp, rfl⟩
  case round =>
    obtain ⟨j, hj, rfl, rfl, rfl⟩ := hrel
    by_cases hlt : j < n
    · obtain ⟨b, off, x, rfl, hb, hxk, hcx⟩ := hr.at_ (i := j) (by rw [hy.out, up_len]; exact hlt)
      rw [hy.out, up_at hlt] at hxk
      injection hxk with hxk
      subst hxk
      have h1 : (j : Int) < (n : Int) := by omega
      go_wp2
      go_roundw
      case rel => exact ⟨j + 1, by omega, by go_num, by (first | go_num | (congr 1; omega)), (by first | trivial | rfl)⟩
      case measure => simp [intOf]; omega
    · have h1 : ¬ (j : Int) < (n : Int) := by omega
      have hjn : j = n := by omega
      subst hjn
      go_wp2
      go_ret
      exact ⟨rfl, rfl⟩

set_option maxHeartbeats 1000000 in
theorem heldIntS_any {A : Option Addr} {c n : Nat} {ys : List Int} {w : World} (k0 : Int) (hr : Rd w .i64 A ys) (hy : Hid (ys = up k0 n)) (h0 : 0 ≤ k0) (hk0 : k0 + n ≤ 2147483647) :
    Calls Tryd.prog 47 #[.slice A n c, .int .i64 k0] w fun e w' => e = .returned (.int .i64 (k0 + n)) ∧ w' = w := by
  go_enter Tryd.func47, Tryd.ntmps47
  go_wp2
  go_loopw [1, 5] (fun v1 v5 wr => ∃ (j : Nat), j ≤ n ∧ v5 = .int .i64 j ∧ v1 = .int .i64 (k0 + j) ∧ wr = w) (fun _ v5 _ => n - (intOf v5).toNat)
  case atStart => exact ⟨0, Nat.zero_le _, rfl, by simp, rfl⟩
  case round =>
    obtain ⟨j, hj, rfl, rfl, rfl⟩ := hrel
    by_cases hlt : j < n
    · obtain ⟨b, off, x, rfl, hb, hxk, hcx⟩ := hr.at_ (i := j) (by rw [hy.out, up_len]; exact hlt)
      rw [hy.out, up_at hlt] at hxk
      injection hxk with hxk
      subst hxk
      have h1 : (j : Int) < (n : Int) := by omega
      go_wp2
      go_roundw
      case rel => exact ⟨j + 1, by omega, by go_num, by (first | go_num | (congr 1; omega)), (by first | trivial | rfl)⟩
      case measure => simp [intOf]; omega
    · have h1 : ¬ (j : Int) < (n : Int) := by omega
      have hjn : j = n := by omega
      subst hjn
      go_wp2
      go_ret
      exact ⟨rfl, rfl⟩
end Go.Proofs.YtcbfbccmghdpgaaDoor
