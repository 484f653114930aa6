/- Plain theory: bytes there and back, rune by rune; code units from the end. -/
import Derived.Test.YtcbfbccmghdpgabDoorDoor
set_option linter.unusedVariables false
namespace Go.Proofs.YtcbfbccmghdpgabDoor
open P

/-- one rune more of some bytes -/
theorem across_step {l rs ss : List Int} {at_ k : Nat} (hb : Bytes l) (hrs : rs = runes8 l) (hss : ss = sizes8 l) (hat : at_ ≤ l.length) (hd : decs (l.drop at_) = (decs l).drop k) (hk : k < (decs l).length) :
    ∃ (r : Int) (n : Nat), rs[k]? = some r ∧ ss[k]? = some (n : Int) ∧ 1 ≤ n ∧ n ≤ 4 ∧ at_ + n ≤ l.length ∧ decs (l.drop (at_ + n)) = (decs l).drop (k + 1) ∧ runes8 (l.drop at_) = r :: runes8 (l.drop (at_ + n)) ∧ good r = true ∧
      ((n = 1 ∧ r = 65533) ∨ (¬ (n = 1 ∧ r = 65533) ∧ (l.drop at_).take n = enc r)) := by
  have hne : l.drop at_ ≠ [] := fun e => by
    rw [e, decs_nil] at hd
    have := congrArg List.length hd
    rw [List.length_drop, List.length_nil] at this; omega
  have hby := hb.drop at_
  obtain ⟨s1, s2, s3⟩ := dec1_size hby hne
  have hst := decs_step hne
  rw [List.length_drop] at s3
  have hgk : (decs l)[k]? = some (dec1 (l.drop at_)) := by
    have h1 : ((decs l).drop k)[0]? = some (dec1 (l.drop at_)) := by rw [← hd, hst]; rfl
    rw [List.getElem?_drop] at h1; simpa using h1
  have htail : decs (l.drop (at_ + (dec1 (l.drop at_)).2)) = (decs l).drop (k + 1) := by
    have h1 : (decs (l.drop at_)).drop 1 = ((decs l).drop k).drop 1 := by rw [hd]
    rw [hst, List.drop_succ_cons, List.drop_zero, List.drop_drop, List.drop_drop] at h1
    exact h1
  refine ⟨(dec1 (l.drop at_)).1, (dec1 (l.drop at_)).2, ?_, ?_, s1, s2, by omega, htail, ?_, ?_, ?_⟩
  · rw [hrs]; unfold runes8; rw [List.getElem?_map, hgk]; rfl
  · rw [hss]; unfold sizes8; rw [List.getElem?_map, hgk]; rfl
  · rw [runes8_step hne, List.drop_drop]
  · rcases dec1_cases hby hne with e | ⟨r, hg, hp, e⟩
    · rw [e]; decide
    · rw [e]; exact hg
  · rcases dec1_cases hby hne with e | ⟨r, hg, hp, e⟩
    · left; rw [e]; exact ⟨rfl, rfl⟩
    · right; rw [e]
      refine ⟨?_, ?_⟩
      · rintro ⟨h1, h2⟩
        simp only at h1 h2
        subst h2
        exact absurd h1 (by decide)
      · obtain ⟨t, ht⟩ := hp
        rw [← ht]; simp
theorem across_end {l : List Int} {at_ k : Nat} (hat : at_ ≤ l.length) (hd : decs (l.drop at_) = (decs l).drop k) (hk : (decs l).length ≤ k) : at_ = l.length := by
  rw [List.drop_eq_nil_of_le hk] at hd
  by_cases hne : l.drop at_ = []
  · have := congrArg List.length hne
    rw [List.length_drop, List.length_nil] at this; omega
  · rw [decs_step hne] at hd; cases hd
theorem across_len {l : List Int} {at_ k : Nat} (hd : decs (l.drop at_) = (decs l).drop k) (hk : k ≤ (decs l).length) : k + (decs (l.drop at_)).length = (decs l).length := by
  rw [hd, List.length_drop]; omega

/-- one rune more from the end of code units -/
theorem back_step {g us : List Int} {m i : Nat} (hg : ∀ r ∈ g, good r = true) (hu : us = encs16 g) (hm : m ≤ g.length) (hi : i + 1 = (encs16 (g.take m)).length) :
    ∃ m', m = m' + 1 ∧ ((∃ x, us[i]? = some x ∧ isL x = false ∧ (encs16 (g.take m')).length = i ∧ encs16 (g.take m).reverse = [x] ++ encs16 (g.take m').reverse) ∨
      (∃ x y, 1 ≤ i ∧ us[i - 1]? = some x ∧ us[i]? = some y ∧ isL y = true ∧ (encs16 (g.take m')).length + 1 = i ∧ encs16 (g.take m).reverse = [x, y] ++ encs16 (g.take m').reverse)) := by
  cases m with
  | zero => simp [encs16_nil] at hi
  | succ m' =>
    refine ⟨m', rfl, ?_⟩
    have hr : g[m']? = some g[m'] := List.getElem?_eq_getElem (by omega)
    have hgr := hg _ (List.getElem_mem (by omega : m' < g.length))
    generalize g[m'] = r at *
    have e1 : encs16 (g.take (m' + 1)) = encs16 (g.take m') ++ enc16 r := by rw [take_snoc hr, encs16_append, encs16_one]
    have e2 : encs16 (g.take (m' + 1)).reverse = enc16 r ++ encs16 (g.take m').reverse := by
      rw [take_snoc hr, List.reverse_append, encs16_append, List.reverse_singleton, encs16_one]
    have e3 := encs16_split hr
    rw [e1, List.length_append] at hi
    have hf := enc16_forms r
    rw [fix_of_good hgr] at hf
    rcases hf with ⟨a, b, c, d, f⟩ | ⟨a, b, c, d, f⟩
    · left
      rw [f] at hi
      simp only [List.length_cons, List.length_nil] at hi
      refine ⟨r, ?_, d, by omega, by rw [e2, f]⟩
      rw [hu, e3, f, show i = (encs16 (g.take m')).length by omega, List.getElem?_append_right (Nat.le_refl _)]; simp
    · right
      rw [f] at hi
      simp only [List.length_cons, List.length_nil] at hi
      have hp := isPair_iff.1 c
      refine ⟨55296 + (r - 65536) / 1024, 56320 + (r - 65536) % 1024, by omega, ?_, ?_, by rw [isL_iff]; omega, by omega, by rw [e2, f]⟩
      · rw [hu, e3, f, show i - 1 = (encs16 (g.take m')).length by omega, List.getElem?_append_right (Nat.le_refl _)]; simp
      · rw [hu, e3, f, show i = (encs16 (g.take m')).length + 1 by omega, List.getElem?_append_right (by omega)]; simp
end Go.Proofs.YtcbfbccmghdpgabDoor
