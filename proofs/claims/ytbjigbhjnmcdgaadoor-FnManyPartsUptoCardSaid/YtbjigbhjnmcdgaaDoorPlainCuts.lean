/- Plain theory: code units that are cut. No program in it. -/
import Derived.Test.YtbjigbhjnmcdgaaDoorPlainMore
set_option linter.unusedVariables false
namespace Go.Proofs.YtbjigbhjnmcdgaaDoor.P

def markB : List Int := [239, 191, 189]
theorem enc_fffd : enc 65533 = markB := by decide
theorem pair_len {a b : Int} (h : isPair a b = true) : (enc (pairR a b)).length = 4 := by
  have h1 := isPair_iff.1 h
  have : 65536 ≤ pairR a b ∧ pairR a b ≤ 1114111 := by unfold pairR; omega
  rw [enc, Lib.encodeRuneZ_four this.1 this.2]; rfl
theorem take_snoc_at {us : List Int} {k : Nat} {a : Int} (hk : 0 < k) (ha : us[k - 1]? = some a) : us.take k = us.take (k - 1) ++ [a] := by
  conv => lhs; rw [show k = (k - 1) + 1 by omega]
  rw [List.take_add_one, ha]; rfl
theorem drop_cons_at {us : List Int} {k : Nat} {b : Int} (hb : us[k]? = some b) : us.drop k = b :: us.drop (k + 1) := by
  obtain ⟨hk, rfl⟩ := List.getElem?_eq_some_iff.1 hb
  exact List.drop_eq_getElem_cons hk
/-- no pair is cut -/
theorem cut_none (us : List Int) (k : Nat) (h : ∀ a b, 0 < k → us[k - 1]? = some a → us[k]? = some b → isPair a b = false) : encs (dec16 us) = encs (dec16 (us.take k)) ++ encs (dec16 (us.drop k)) := by
  rw [← encs_append, ← dec16_split, List.take_append_drop]
  intro a b q t hp hs
  have hk : 0 < k := by
    rcases Nat.eq_zero_or_pos k with h0 | h0
    · subst h0; simp at hp
    · exact h0
  have hkl : k ≤ us.length := by
    rcases Nat.lt_or_ge us.length k with h1 | h1
    · rw [List.drop_eq_nil_of_le (by omega)] at hs; cases hs
    · exact h1
  refine h a b hk ?_ ?_
  · have h1 := congrArg (fun l => l[k - 1]?) hp
    simp only [List.getElem?_take] at h1
    rw [if_pos (by omega)] at h1
    have hl := congrArg List.length hp
    simp at hl
    rw [h1, List.getElem?_append_right (by omega)]
    rw [show k - 1 - q.length = 0 by omega]; rfl
  · have h1 := congrArg (fun l => l[0]?) hs
    simp only [List.getElem?_drop] at h1
    simpa using h1
/-- a pair is cut -/
theorem cut_pair {us : List Int} {k : Nat} {a b : Int} (hk : 0 < k) (ha : us[k - 1]? = some a) (hb : us[k]? = some b) (hp : isPair a b = true) :
    ∃ X Q S, encs (dec16 (us.take k)) = X ++ markB ∧ encs (dec16 (us.drop k)) = markB ++ S ∧ encs (dec16 us) = X ++ (Q ++ S) ∧ Q.length = 4 := by
  have hpi := isPair_iff.1 hp
  have hla : loneR a = 65533 := by unfold loneR; rw [if_pos (.inl (isH_iff.2 hpi.1))]
  have hlb : loneR b = 65533 := by unfold loneR; rw [if_pos (.inr (isL_iff.2 hpi.2))]
  refine ⟨encs (dec16 (us.take (k - 1))), enc (pairR a b), encs (dec16 (us.drop (k + 1))), ?_, ?_, ?_, pair_len hp⟩
  · rw [take_snoc_at hk ha, dec16_split (fun x y q t _ hs => by injection hs with hs _; subst hs; rw [isPair_false]; omega), encs_append, dec16_one, hla, encs_cons, encs_nil, List.append_nil, enc_fffd]
  · rw [drop_cons_at hb, dec16_cons b _ (fun v t' _ => by rw [isPair_false]; omega), hlb, encs_cons, enc_fffd]
  · have hall : us = us.take (k - 1) ++ (a :: b :: us.drop (k + 1)) := by
      conv => lhs; rw [← List.take_append_drop k us, take_snoc_at hk ha, drop_cons_at hb]
      simp
    conv => lhs; rw [hall]
    rw [dec16_split (fun x y q t _ hs => by injection hs with hs _; subst hs; rw [isPair_false]; omega), encs_append, dec16_pair _ hp, encs_cons]
end Go.Proofs.YtbjigbhjnmcdgaaDoor.P
