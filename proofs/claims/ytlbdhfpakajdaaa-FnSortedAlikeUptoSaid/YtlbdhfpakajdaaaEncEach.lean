/- Contracts of utf8.EncodeRune into new memory, and of impl.EncodeEach. -/
import Derived.Test.YtlbdhfpakajdaaaPieces
import Derived.Test.YtlbdhfpakajdaaaShelfE
import Derived.Test.YtlbdhfpakajdaaaQuiet
set_option linter.unusedVariables false
namespace Go.Proofs.Ytlbdhfpakajdaaa
open Go.RowKit P

theorem Blk.setAll {k : IntKind} {g : Nat} {e : TypeId} : ∀ (xs : List Int) (off : Nat) {w : World} {cur : Array Value}, Blk w g e cur → off + xs.length ≤ cur.size →
    ∃ cur', Blk (w.setCells g off (xs.map (Value.int k))) g e cur' ∧ cur'.size = cur.size ∧ (∀ (j : Nat) (x : Int), xs[j]? = some x → cur'[off + j]? = some (.int k x)) ∧ (∀ i : Nat, i < off → cur'[i]? = cur[i]?)
  | [], off, w, cur, h, _ => ⟨cur, h, rfl, fun j x hx => by simp at hx, fun _ _ => rfl⟩
  | x :: xs, off, w, cur, h, hs => by
    simp only [List.length_cons] at hs
    obtain ⟨cur', b, s, p, q⟩ := Blk.setAll (k := k) xs (off + 1) (h.set off (.int k x)) (by simp; omega)
    refine ⟨cur', b, by simpa using s, fun j y hy => ?_, fun i hi => ?_⟩
    · match j, hy with
      | 0, hy =>
        simp at hy; subst hy
        rw [Nat.add_zero, q off (by omega), Array.getElem?_setIfInBounds]
        simp; omega
      | j + 1, hy =>
        simp only [List.getElem?_cons_succ] at hy
        rw [show off + (j + 1) = off + 1 + j by omega]
        exact p j y hy
    · rw [q i (by omega), Array.getElem?_setIfInBounds, if_neg (by omega)]
theorem below_setCells {B g : Nat} {a : World} (hg : B ≤ g) : ∀ (vs : List Value) (off : Nat) {w : World}, Below B a w → Below B a (w.setCells g off vs)
  | [], _, _, h => h
  | v :: vs, off, w, h => below_setCells hg vs (off + 1) (h.setCell hg v)

theorem encodeRune_made {w : World} {x : Int} (h0 : -2147483648 ≤ x) (h1 : x ≤ 2147483647) :
    Calls Try.prog 20 #[.slice (some ⟨w.heap.size, 0, none⟩) 4 4, .int .i32 x] (w.alloc (.cells (madeCells #[.int .u8 0] 4) 5)) fun e w' => e = .returned (.int .i64 (enc x).length) ∧
      Own w' w.heap.size 5 .u8 (.slice (some ⟨w.heap.size, 0, none⟩) (enc x).length 4) (enc x) ∧ Below w.heap.size w w' := by
  have hB : Blk (w.alloc (.cells (madeCells #[.int .u8 0] 4) 5)) w.heap.size 5 (madeCells #[.int .u8 0] 4) := Blk.made _ _ _
  have hsz : (madeCells #[Value.int .u8 0] 4).size = 4 := made_size _ _
  have e0 : Lib.runeCells x = (enc x).map (Value.int .u8) := rfl
  have e1 : (Lib.runeCells x).length = (enc x).length := by rw [e0, List.length_map]
  have el := (enc_len x).2
  have h := Try.utf8_EncodeRune w.heap.size 0 4 4 x h0 h1 (w.alloc (.cells (madeCells #[.int .u8 0] 4) 5)) (by omega)
    (fun j hj => by obtain ⟨u, hu⟩ := hB.some_ (i := 0 + j) (by omega); rw [hu]; rfl) (fun j hj => hB.free _)
  refine h.mono ?_
  rintro e w' ⟨rfl, rfl⟩
  rw [e1]
  obtain ⟨cur', b, s, p, _⟩ := Blk.setAll (k := .u8) (enc x) 0 hB (by omega)
  rw [← e0] at b
  refine ⟨rfl, ?_, below_setCells (Nat.le_refl _) _ _ ((Below.refl _ _).alloc (Nat.le_refl _) _)⟩
  have hf : Firsts cur' .u8 (enc x) := ⟨by omega, fun j y hj => by have := p j y hj; rwa [Nat.zero_add] at this⟩
  have := hf.own b (Nat.le_refl _) (by rw [s, hsz]; decide)
  rw [s, hsz] at this
  exact this

set_option maxHeartbeats 2000000 in
theorem encodeEach_any {A : Option Addr} {rs : List Int} {c : Nat} {w : World} (hr : Rd w .i32 A rs) (hi : I32 rs) (hl : rs.length ≤ 1048576) :
    Calls Try.prog 8 #[.slice A rs.length c] w (MadeP w (rs.map enc)) := by
  have hmk : ∀ W : World, (Instr.makeSlice 26 (.int .i64 4) (.int .i64 4)).run Try.prog W = .ok (.slice (some ⟨W.heap.size, 0, none⟩) 4 4) (W.alloc (.cells (madeCells #[.int .u8 0] 4) 5)) := fun W => run_mk (P := Try.prog) 26 5 .u8 1 Try.underlying26 info_u8 4 4 (Nat.le_refl _) (by omega) (by omega) W
  go_enter Try.func8, Try.ntmps8
  go_wp2
  go_loopw [3, 10] (fun v i wr => ∃ (k : Nat) (A : Option Addr) (c : Nat) (vs : List Value), k ≤ rs.length ∧ vs.length ≤ k ∧ i = .int .i64 k ∧ v = .slice A vs.length c ∧ OwnV wr w.heap.size 26 (.slice A vs.length c) vs ∧ PcsO wr w.heap.size vs ((rs.take k).map enc) ∧ Below w.heap.size w wr)
    (fun _ i _ => rs.length - (intOf i).toNat)
  case atStart => exact ⟨0, _, 0, [], Nat.zero_le _, Nat.le_refl _, rfl, rfl, OwnV.empty _ _, PcsO.nil _ _, (Below.refl _ _).alloc (Nat.le_refl _) _⟩
  case round =>
    obtain ⟨k, A2, c2, vs, hk, hvk, rfl, rfl, hown, hpc, hbel⟩ := hrel
    have hsz := hbel.size
    by_cases hlt : k < rs.length
    · obtain ⟨b, off, x, rfl, hb, hxk, hcx⟩ := (hr.next hbel).at_ hlt
      have hx32 := hi x (mem_at hxk)
      have HT : Hid ((rs.take (k + 1)).map enc = (rs.take k).map enc ++ [enc x]) := by show _ = _; rw [take_succ hxk, List.map_append]; rfl
      have h1 : (k : Int) < (rs.length : Int) := by omega
      have el := (enc_len x).2
      have hq1 : (vs.length + 1) * 24 ≤ 140737488355328 := by omega
      have hq2 : vs.length + 1 ≤ maxLen := by unfold maxLen; omega
      clear hxk
      go_wp2_with (first
        | (go_at_call 20; refine (encodeRune_made hx32.1 hx32.2).mono ?_; rintro e w1 ⟨rfl, o1, l1⟩; have hown1 := hown.next l1; have hpc1 := hpc.next l1; have hs1 := Nat.le_trans hsz l1.size)
        | (at_builtin; refine wpList_app1v w1 rfl _ _ 24 rfl w.heap.size 26 Try.underlying24 info_bytes (.slice (some ⟨wr.heap.size, 0, none⟩) (enc x).length 4) rfl hown1 rfl rfl hq1 hq2 hs1 ?_; intro A3 c3 vs1 w3 he1 hown3 hg3))
      have hb3 := hg3.below_newV hown1 hs1
      have hz : vs1.length ≤ k + 1 := by rw [he1.out, List.length_append]; simp; omega
      have hp2 := ((hpc1.snoc (o1.lower hsz)).alloc (.cells #[.slice (some ⟨wr.heap.size, 0, none⟩) (enc x).length 4] 26)).grow hg3 (hown1.alloc _)
      rw [← he1.out, ← HT.out] at hp2
      have hfin := (bnext hbel l1).trans hb3
      clear hown hown1 hpc hpc1 o1 hg3 l1
      go_roundw
      case rel => exact ⟨k + 1, A3, c3, vs1, by omega, hz, by go_num, rfl, hown3, hp2, hfin⟩
      case measure => simp [intOf]; omega
    · have h1 : ¬ (k : Int) < (rs.length : Int) := by omega
      go_wp2
      go_ret
      refine ⟨A2, c2, vs, rfl, hown, ?_, hbel⟩
      rw [List.take_of_length_le (by omega)] at hpc
      exact hpc
end Go.Proofs.Ytlbdhfpakajdaaa
