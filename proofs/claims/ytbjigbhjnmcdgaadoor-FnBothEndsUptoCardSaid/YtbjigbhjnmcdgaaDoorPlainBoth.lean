/- FnBothEnds: what is taken from both ends in turn is what is taken from the beginning alone. No program in it. -/
import Derived.Test.YtbjigbhjnmcdgaaDoorScript
set_option linter.unusedVariables false
namespace Go.Proofs.YtbjigbhjnmcdgaaDoor
open P

/-- after k runes, f of them from the beginning, what is left is decoded to the runes between -/
def Stands (l : List Int) (ts : List Bool) (k f : Nat) : Prop :=
  ∃ rest, Bytes rest ∧ (script l ts).drop k = script rest (ts.drop k) ∧ decs rest = ((decs l).drop f).take ((decs l).length - k)
theorem Stands.start {l : List Int} (hb : Bytes l) (ts : List Bool) : Stands l ts 0 0 := ⟨l, hb, rfl, by simp⟩
theorem Stands.front {l : List Int} {ts : List Bool} {k f : Nat} (h : Stands l ts k f) (hk : ts[k]? = some false) (hn : k < (decs l).length) (hf : f ≤ k) :
    (script l ts)[k]? = (decs l)[f]? ∧ Stands l ts (k + 1) (f + 1) := by
  obtain ⟨rest, hb, hs, hd⟩ := h
  have hlen : (decs rest).length = (decs l).length - k := by rw [hd, List.length_take, List.length_drop]; omega
  have hne : rest ≠ [] := fun e => by rw [e, decs_nil] at hlen; simp at hlen; omega
  have hdrop : ts.drop k = false :: ts.drop (k + 1) := by
    obtain ⟨hk', e⟩ := List.getElem?_eq_some_iff.1 hk
    rw [← List.getElem_cons_drop hk', e]
  rw [hdrop] at hs
  have hs2 : (script l ts).drop k = dec1 rest :: script (rest.drop (dec1 rest).2) (ts.drop (k + 1)) := hs
  have hd2 := decs_step hne
  have e1 : (script l ts)[k]? = some (dec1 rest) := by
    have := congrArg (fun z => z[0]?) hs2
    simpa using this
  have e2 : (decs l)[f]? = some (dec1 rest) := by
    have := congrArg (fun z => z[0]?) (hd2.symm.trans hd)
    simp only [List.getElem?_cons_zero] at this
    rw [List.getElem?_take_of_lt (by omega), List.getElem?_drop] at this
    simpa using this.symm
  refine ⟨by rw [e1, e2], rest.drop (dec1 rest).2, hb.drop _, ?_, ?_⟩
  · have := congrArg List.tail hs2
    simpa using this
  · have := congrArg List.tail (hd2.symm.trans hd)
    rw [List.tail_cons] at this
    rw [this]
    obtain ⟨m, hm⟩ : ∃ m, (decs l).length - k = m + 1 := ⟨(decs l).length - k - 1, by omega⟩
    rw [hm, show (decs l).length - (k + 1) = m by omega]
    rw [← List.drop_one, List.drop_take, List.drop_drop]
    rfl
theorem Stands.back {l : List Int} {ts : List Bool} {k f : Nat} (h : Stands l ts k f) (hk : ts[k]? = some true) (hn : k < (decs l).length) (hf : f ≤ k) :
    (script l ts)[k]? = (decs l)[f + ((decs l).length - k) - 1]? ∧ Stands l ts (k + 1) f := by
  obtain ⟨rest, hb, hs, hd⟩ := h
  have hlen : (decs rest).length = (decs l).length - k := by rw [hd, List.length_take, List.length_drop]; omega
  have hne : rest ≠ [] := fun e => by rw [e, decs_nil] at hlen; simp at hlen; omega
  have hdrop : ts.drop k = true :: ts.drop (k + 1) := by
    obtain ⟨hk', e⟩ := List.getElem?_eq_some_iff.1 hk
    rw [← List.getElem_cons_drop hk', e]
  rw [hdrop] at hs
  have hs2 : (script l ts).drop k = decLast rest :: script (rest.take (rest.length - (decLast rest).2)) (ts.drop (k + 1)) := hs
  have hd2 := decs_last hb hne
  have e1 : (script l ts)[k]? = some (decLast rest) := by
    have := congrArg (fun z => z[0]?) hs2
    simpa using this
  have hl2 : (decs (rest.take (rest.length - (decLast rest).2))).length = (decs l).length - k - 1 := by
    have := congrArg List.length hd2
    rw [hlen, List.length_append] at this
    change _ = _ + 1 at this
    omega
  have e2 : (decs l)[f + ((decs l).length - k) - 1]? = some (decLast rest) := by
    have := congrArg (fun z => z[(decs l).length - k - 1]?) (hd2.symm.trans hd)
    rw [List.getElem?_append_right (by omega), hl2, Nat.sub_self, List.getElem?_take_of_lt (by omega), List.getElem?_drop] at this
    rw [show f + ((decs l).length - k) - 1 = f + ((decs l).length - k - 1) by omega, ← this]
    rfl
  refine ⟨by rw [e1, e2], rest.take (rest.length - (decLast rest).2), hb.take _, ?_, ?_⟩
  · have := congrArg List.tail hs2
    simpa using this
  · have := congrArg (List.take ((decs l).length - k - 1)) (hd2.symm.trans hd)
    rw [List.take_append_of_le_length (by omega), List.take_of_length_le (by omega), List.take_take, Nat.min_eq_left (by omega)] at this
    rw [this, show (decs l).length - (k + 1) = (decs l).length - k - 1 by omega]
end Go.Proofs.YtbjigbhjnmcdgaaDoor
