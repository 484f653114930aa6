/- Contract of impl.ValidEach. -/
import Derived.Test.YtbjigbhjnmcdgaaDoorValid
set_option linter.unusedVariables false
namespace Go.Proofs.YtbjigbhjnmcdgaaDoor
open Go.RowKit P

set_option maxHeartbeats 2000000 in
theorem validEach_any {A : Option Addr} {vs : List Value} {ls : List (List Int)} {c base : Nat} {w : World} (hv : RdV w A vs) (hp : PcsO w base vs ls) (hB : ∀ l ∈ ls, Bytes l) (hT : Tabs w) (hl : vs.length ≤ 16777217) :
    Calls Tryd.prog 17 #[.slice A vs.length c] w (MadeB w 4 (ls.map vld)) := by
  have HB := Lib.hid hB
  clear hB
  go_enter Tryd.func17, Tryd.ntmps17
  go_wp2
  go_loopw [3, 9] (fun v i wr => ∃ (k : Nat) (A : Option Addr) (c : Nat) (acc : List Bool), k ≤ vs.length ∧ acc.length ≤ k ∧ i = .int .i64 k ∧ Hid (acc = (ls.take k).map vld) ∧ v = .slice A acc.length c ∧ OwnB wr w.heap.size 4 (.slice A acc.length c) acc ∧ Below w.heap.size w wr)
    (fun _ i _ => vs.length - (intOf i).toNat)
  case atStart => exact ⟨0, _, 0, [], Nat.zero_le _, Nat.le_refl _, rfl, rfl, rfl, OwnB.empty _ _, (Below.refl _ _).alloc (Nat.le_refl _) _⟩
  case round =>
    obtain ⟨k, A2, c2, acc, hk, hak, rfl, hacc, rfl, hown, hbel⟩ := hrel
    have hsz := hbel.size
    by_cases hlt : k < vs.length
    · obtain ⟨b, off, v, hA, hb, hvk, hcv⟩ := (hv.next hbel).at_ hlt
      obtain ⟨l, Ap, cp, hlk, hvp, op⟩ := (hp.next hbel).at_ (j := k) (by rw [← hp.1]; exact hlt)
      rw [hvk] at hvp; injection hvp with hvp
      subst hvp hA
      have hBl := HB.out l (List.mem_of_getElem? hlk)
      have HT : Hid ((ls.take (k + 1)).map vld = (ls.take k).map vld ++ [vld l]) := by show _ = _; rw [List.take_add_one, hlk, List.map_append]; rfl
      have h1 : (k : Int) < (vs.length : Int) := by omega
      have hq1 : acc.length + 1 ≤ 140737488355328 := by omega
      have HC := Lib.hid (valid_any (c := cp) op.rd hBl (hT.next hbel) op.len.2)
      clear hvk hlk op
      generalize hq : vld l = q at *
      clear hq
      go_wp2_with (first
        | (go_at_call 28; refine HC.out.mono ?_; rintro e w1 ⟨rfl, l1⟩; have hown1 := hown.next l1; have hs1 := Nat.le_trans hsz l1.size)
        | (at_builtin; refine wpList_app1b w1 rfl _ _ 23 rfl w.heap.size 4 Tryd.underlying23 info_bool q hown1 rfl rfl hq1 hs1 ?_; intro A3 c3 acc1 w3 he1 hown3 hg3))
      have hb3 := hg3.below_newB hown1 hs1
      have hz : acc1.length ≤ k + 1 := by rw [he1.out, List.length_append]; simp; omega
      have hfin := (bnext hbel l1).trans hb3
      clear hown hown1 hg3 l1
      go_roundw
      case rel => exact ⟨k + 1, A3, c3, acc1, by omega, hz, by go_num, by show _ = _; rw [he1.out, hacc.out, HT.out], rfl, hown3, hfin⟩
      case measure => simp [intOf]; omega
    · have h1 : ¬ (k : Int) < (vs.length : Int) := by omega
      go_wp2
      go_ret
      refine ⟨A2, c2, acc, ?_, rfl, hown, hbel⟩
      show _ = _
      rw [hacc.out, List.take_of_length_le (by rw [← hp.1]; omega)]
end Go.Proofs.YtbjigbhjnmcdgaaDoor
