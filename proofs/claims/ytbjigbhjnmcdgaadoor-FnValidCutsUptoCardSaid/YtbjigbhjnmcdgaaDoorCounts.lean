/- Contracts of utf8.RuneCount and impl.CountEach. -/
import Derived.Test.YtbjigbhjnmcdgaaDoorPlainCounts
import Derived.Test.YtbjigbhjnmcdgaaDoorPieces
set_option linter.unusedVariables false
namespace Go.Proofs.YtbjigbhjnmcdgaaDoor
open Go.RowKit P

theorem runeCount_own {A : Option Addr} {l : List Int} {c base : Nat} {e : TypeId} {w : World} (ho : Own w base e .u8 (.slice A l.length c) l) (hb : Bytes l) (hl : l.length ≤ 16777216) :
    Calls Tryd.prog 29 #[.slice A l.length c] w fun e w' => e = .returned (.int .i64 (decs l).length) ∧ Below w.heap.size w w' := by
  have hc := ho.len.2
  by_cases h0 : 0 < l.length
  · obtain ⟨b, off, rfl, hlt, hcell⟩ := ho.rd h0
    have h := Tryd.utf8_RuneCount (ofInts l) b off c w (by rw [ofInts_size]; exact hc) (cells_of hb hcell) (by rw [ofInts_size]; omega)
    rw [ofInts_size, runeCount_go hb] at h
    refine h.mono fun e w' h => ⟨h.1, ?_⟩
    rcases h.2 with rfl | ⟨t, pos, rfl⟩
    · exact Below.refl _ _
    · exact (Below.refl _ _).alloc (Nat.le_refl _) _
  · obtain rfl : l = [] := List.eq_nil_of_length_eq_zero (by omega)
    rcases ho.2 with ⟨hv, _⟩ | ⟨g, cap, cur, hv, _⟩
    · injection hv with h1 h2 h3
      subst h1 h3
      exact (Tryd.utf8_RuneCount_nil w).mono fun e w' h => ⟨h.1, by rw [h.2]; exact Below.refl _ _⟩
    · injection hv with h1 h2 h3
      subst h1
      have h := Tryd.utf8_RuneCount (ofInts []) g 0 c w (by rw [ofInts_size]; exact Nat.zero_le _) (fun j hj => by rw [ofInts_size] at hj; simp at hj) (by rw [ofInts_size]; simp)
      rw [ofInts_size, runeCount_go Bytes.nil] at h
      refine h.mono fun e w' h => ⟨h.1, ?_⟩
      rcases h.2 with rfl | ⟨t, pos, rfl⟩
      · exact Below.refl _ _
      · exact (Below.refl _ _).alloc (Nat.le_refl _) _

set_option maxHeartbeats 2000000 in
theorem countEach_any {A : Option Addr} {vs : List Value} {ls : List (List Int)} {c base : Nat} {w : World} (hv : RdV w A vs) (hp : PcsO w base vs ls) (hB : ∀ l ∈ ls, Bytes l ∧ l.length ≤ 16777216) (hl : vs.length ≤ 16777216) :
    Calls Tryd.prog 18 #[.slice A vs.length c] w (Made w 3 .i64 (ls.map fun l => ((decs l).length : Int))) := by
  have HB := Lib.hid hB
  clear hB
  go_enter Tryd.func18, Tryd.ntmps18
  go_wp2
  go_loopw [3, 9] (fun v i wr => ∃ (k : Nat) (A : Option Addr) (c : Nat) (acc : List Int), k ≤ vs.length ∧ acc.length ≤ k ∧ i = .int .i64 k ∧ Hid (acc = (ls.take k).map fun l => ((decs l).length : Int)) ∧ v = .slice A acc.length c ∧ Own wr w.heap.size 3 .i64 (.slice A acc.length c) acc ∧ Below w.heap.size w wr)
    (fun _ i _ => vs.length - (intOf i).toNat)
  case atStart => exact ⟨0, _, 0, [], Nat.zero_le _, Nat.le_refl _, rfl, rfl, rfl, Own.empty _ _ _, (Below.refl _ _).alloc (Nat.le_refl _) _⟩
  case round =>
    obtain ⟨k, A2, c2, acc, hk, hak, rfl, hacc, rfl, hown, hbel⟩ := hrel
    have hsz := hbel.size
    by_cases hlt : k < vs.length
    · obtain ⟨b, off, v, hA, hb, hvk, hcv⟩ := (hv.next hbel).at_ hlt
      obtain ⟨l, Ap, cp, hlk, hvp, op⟩ := (hp.next hbel).at_ (j := k) (by rw [← hp.1]; exact hlt)
      rw [hvk] at hvp; injection hvp with hvp
      subst hvp hA
      obtain ⟨hBl, hll⟩ := HB.out l (List.mem_of_getElem? hlk)
      have HT : Hid ((ls.take (k + 1)).map (fun l => ((decs l).length : Int)) = (ls.take k).map (fun l => ((decs l).length : Int)) ++ [((decs l).length : Int)]) := by show _ = _; rw [List.take_add_one, hlk, List.map_append]; rfl
      have h1 : (k : Int) < (vs.length : Int) := by omega
      have hq1 : (acc.length + 1) * 8 ≤ 140737488355328 := by omega
      have hq2 : acc.length + 1 ≤ maxLen := by unfold maxLen; omega
      have HC := Lib.hid (runeCount_own op hBl hll)
      have hdl := decs_le l
      clear hvk hlk op
      generalize (decs l).length = n at *
      go_wp2_with (first
        | (go_at_call 29; refine HC.out.mono ?_; rintro e w1 ⟨rfl, l1⟩; have hown1 := hown.next l1; have hs1 := Nat.le_trans hsz l1.size)
        | (at_builtin; refine wpList_app1 w1 rfl _ _ 25 rfl w.heap.size 3 .i64 8 Tryd.underlying25 info_int (n : Int) hown1 rfl rfl hq1 hq2 hs1 ?_; intro A3 c3 acc1 w3 he1 hown3 hg3))
      have hb3 := hg3.below_new hown1 hs1
      have hz : acc1.length ≤ k + 1 := by rw [he1.out, List.length_append]; simp; omega
      have hfin := (bnext hbel l1).trans hb3
      clear hown hown1 hg3 l1
      go_roundw
      case rel => exact ⟨k + 1, A3, c3, acc1, by omega, hz, by go_num, by show _ = _; rw [he1.out, hacc.out, HT.out], rfl, hown3, hfin⟩
      case measure => simp [intOf]; omega
    · have h1 : ¬ (k : Int) < (vs.length : Int) := by omega
      go_wp2
      go_ret
      refine ⟨A2, c2, acc, ?_, rfl, hown, hbel⟩
      show _ = _
      rw [hacc.out, List.take_of_length_le (by rw [← hp.1]; omega)]
end Go.Proofs.YtbjigbhjnmcdgaaDoor
