/- Plain theory: where a place lies in a text of runes, and what is decoded if bytes there are others. -/
import Derived.Test.YtcbfbccmghdpgaaDoorPlainByte
set_option linter.unusedVariables false
namespace Go.Proofs.YtcbfbccmghdpgaaDoor
open P

/-- where the i-th rune begins -/
def L (g : List Int) (i : Nat) : Nat := (encs (g.take i)).length
theorem L_succ {g : List Int} {i : Nat} {r : Int} (h : g[i]? = some r) : L g (i + 1) = L g i + (enc r).length := by
  unfold L; rw [take_snoc h, encs_append, encs_one, List.length_append]
theorem L_lt {g : List Int} {i : Nat} (h : i < g.length) : L g i < L g (i + 1) := by
  have := L_succ (List.getElem?_eq_getElem h)
  have := (enc_len g[i]).1; omega
theorem L_mono (g : List Int) : ∀ (j i : Nat), i ≤ j → L g i ≤ L g j
  | 0, i, h => by rw [Nat.le_zero.1 h]; exact Nat.le_refl _
  | j + 1, i, h => by
    by_cases e : i = j + 1
    · rw [e]; exact Nat.le_refl _
    · have h1 := L_mono g j i (by omega)
      by_cases hj : j < g.length
      · have := L_lt hj; omega
      · unfold L at h1 ⊢
        rw [List.take_of_length_le (l := g) (i := j + 1) (by omega)]
        rw [List.take_of_length_le (l := g) (i := j) (by omega)] at h1; exact h1
theorem L_all (g : List Int) : L g g.length = (encs g).length := by unfold L; rw [List.take_length]
theorem places_at : ∀ (a : Int) {g : List Int}, (∀ r ∈ g, good r = true) → ∀ i, i ≤ g.length → (places a g)[i]? = some (a + L g i)
  | a, g, _, 0, _ => by simp [places, L, encs_nil]
  | a, [], _, i + 1, h => by simp at h
  | a, r :: g, hg, i + 1, h => by
    rw [places_cons, List.getElem?_cons_succ, places_at _ (fun x hx => hg x (by simp [hx])) i (by simpa using h), len8_good (hg r (by simp))]
    unfold L
    rw [List.take_succ_cons, encs_cons, List.length_append]
    congr 1; omega

/-- a place in a text: the runes that end at or ahead of it, those that begin at or behind it, and what lies between -/
theorem cut_idx {g b : List Int} {at_ : Nat} (hb : b = encs g) (h : at_ ≤ b.length) :
    ∃ (i j : Nat) (m1 m2 : List Int), i ≤ j ∧ j ≤ g.length ∧ (∀ k, k ≤ g.length → (L g k ≤ at_ ↔ k ≤ i)) ∧ (∀ k, k ≤ g.length → (at_ ≤ L g k ↔ j ≤ k)) ∧
      b.take at_ = encs (g.take i) ++ m1 ∧ b.drop at_ = m2 ++ encs (g.drop j) ∧ m1.length ≤ 3 ∧ m2.length ≤ 3 ∧ Bytes m1 ∧ Bytes m2 := by
  obtain ⟨i, hi, hh⟩ := place_of g at_ (by rw [← hb]; exact h)
  rcases hh with e | ⟨r, hr, h1, h2⟩
  · have e' : L g i = at_ := e
    refine ⟨i, i, [], [], Nat.le_refl _, hi, fun k hk => ?_, fun k hk => ?_, ?_, ?_, by simp, by simp, Bytes.nil, Bytes.nil⟩
    · constructor
      · intro hl
        by_cases hki : k ≤ i
        · exact hki
        · have a1 := L_lt (g := g) (i := i) (by omega)
          have a2 := L_mono g k (i + 1) (by omega); omega
      · intro hl; have := L_mono g i k hl; omega
    · constructor
      · intro hl
        by_cases hki : i ≤ k
        · exact hki
        · have a1 := L_lt (g := g) (i := k) (by omega)
          have a2 := L_mono g i (k + 1) (by omega); omega
      · intro hl; have := L_mono g k i hl; omega
    · rw [hb, encs_take_drop g i, ← e]; simp
    · rw [hb, encs_take_drop g i, ← e]; simp
  · have hil : i < g.length := (List.getElem?_eq_some_iff.1 hr).1
    have hs := L_succ hr
    have h1' : L g i < at_ := h1
    have h2' : at_ < L g i + (enc r).length := h2
    have el := (enc_len r).2
    have hsp : b = encs (g.take i) ++ (enc r ++ encs (g.drop (i + 1))) := by rw [hb]; exact encs_split hr
    have hP : (encs (g.take i)).length = L g i := rfl
    refine ⟨i, i + 1, (enc r).take (at_ - L g i), (enc r).drop (at_ - L g i), by omega, by omega, fun k hk => ?_, fun k hk => ?_, ?_, ?_, by rw [List.length_take]; omega, by rw [List.length_drop]; omega, (enc_bytes r).take _, (enc_bytes r).drop _⟩
    · constructor
      · intro hl
        by_cases hki : k ≤ i
        · exact hki
        · have a2 := L_mono g k (i + 1) (by omega); omega
      · intro hl; have := L_mono g i k hl; omega
    · constructor
      · intro hl
        by_cases hki : i + 1 ≤ k
        · exact hki
        · have a2 := L_mono g i k (by omega); omega
      · intro hl; have := L_mono g k (i + 1) hl; omega
    · rw [hsp, List.take_append, List.take_append, hP]
      rw [List.take_of_length_le (by omega), show at_ - L g i - (enc r).length = 0 by omega]; simp
    · rw [hsp, List.drop_append, List.drop_append, hP]
      rw [List.drop_eq_nil_of_le (by omega), show at_ - L g i - (enc r).length = 0 by omega]; simp

theorem runes8_pos {m : List Int} (h : m ≠ []) : 1 ≤ (runes8 m).length := by rw [runes8_len]; exact decs_pos h
theorem runes8_le (m : List Int) : (runes8 m).length ≤ m.length := by rw [runes8_len]; exact decs_le m

theorem mid_take {g : List Int} {i : Nat} (q : List Int) (hi : i ≤ g.length) : (g.take i ++ q).take i = g.take i := by
  rw [List.take_append, List.length_take, Nat.min_eq_left hi, Nat.sub_self, List.take_zero, List.append_nil, List.take_take, Nat.min_self]
theorem mid_drop {g : List Int} {i j : Nat} (q : List Int) (hi : i ≤ g.length) (hj : j ≤ g.length) : (g.take i ++ (q ++ g.drop j)).drop ((g.take i ++ (q ++ g.drop j)).length - (g.length - j)) = g.drop j := by
  simp only [List.length_append, List.length_take, List.length_drop]
  rw [← List.append_assoc, List.drop_append, List.drop_eq_nil_of_le (by simp; omega)]
  rw [List.nil_append, List.length_append, List.length_take, show min i g.length + (q.length + (g.length - j)) - (g.length - j) - (min i g.length + q.length) = 0 by omega, List.drop_zero]

/-- FnFurtherByte -/
theorem further_facts {g b en : List Int} {at_ : Nat} {c : Int} (hg : ∀ r ∈ g, good r = true) (hb : b = encs g) (hen : en = places 0 g) (hc : 0 ≤ c ∧ c < 256) (h : at_ ≤ b.length) :
    ∃ bf bh : Nat, bf ≤ g.length ∧ bh ≤ g.length ∧ (∀ (i : Nat) (y : Int), i < g.length → en[i + 1]? = some y → (y ≤ at_ ↔ i < bf)) ∧ (∀ (i : Nat) (y : Int), i < g.length → en[i]? = some y → ((at_ : Int) ≤ y ↔ g.length - bh ≤ i)) ∧
      ∀ rs, rs = runes8 (b.take at_ ++ [c] ++ b.drop at_) → bf + bh + 1 ≤ rs.length ∧ rs.take bf = g.take bf ∧ rs.drop (rs.length - bh) = g.drop (g.length - bh) := by
  obtain ⟨i, j, m1, m2, hij, hj, p1, p2, t1, t2, _, _, y1, y2⟩ := cut_idx hb h
  refine ⟨i, g.length - j, by omega, by omega, fun k y hk hy => ?_, fun k y hk hy => ?_, ?_⟩
  · rw [hen, places_at 0 hg _ (by omega)] at hy
    injection hy with hy
    have := p1 (k + 1) (by omega); omega
  · rw [hen, places_at 0 hg _ (by omega)] at hy
    injection hy with hy
    have := p2 k (by omega); omega
  · rintro rs rfl
    have hm : Bytes (m1 ++ [c] ++ m2) := (y1.app (fun x hx => by simp at hx; omega)).app y2
    have e : b.take at_ ++ [c] ++ b.drop at_ = encs (g.take i) ++ ((m1 ++ [c] ++ m2) ++ encs (g.drop j)) := by rw [t1, t2]; simp
    have hr := runes8_mid (a := g.take i) (b := g.drop j) (fun r hr => hg r (List.mem_of_mem_take hr)) (fun r hr => hg r (List.mem_of_mem_drop hr)) hm
    rw [e, hr]
    have hp := runes8_pos (m := m1 ++ [c] ++ m2) (by simp)
    refine ⟨?_, mid_take _ (by omega), ?_⟩
    · simp only [List.length_append, List.length_take, List.length_drop] at hp ⊢; omega
    · rw [mid_drop _ (by omega) hj, show g.length - (g.length - j) = j by omega]

/-- FnLostBytes -/
theorem lost_facts {g b en : List Int} {fr to_ : Nat} (hg : ∀ r ∈ g, good r = true) (hb : b = encs g) (hen : en = places 0 g) (h : fr ≤ to_) (h' : to_ ≤ b.length) :
    ∃ bf bh : Nat, bf ≤ g.length ∧ bh ≤ g.length ∧ (∀ (i : Nat) (y : Int), i < g.length → en[i + 1]? = some y → (y ≤ fr ↔ i < bf)) ∧ (∀ (i : Nat) (y : Int), i < g.length → en[i]? = some y → ((to_ : Int) ≤ y ↔ g.length - bh ≤ i)) ∧
      ∀ rs, rs = runes8 (b.take fr ++ b.drop to_) → ∀ bh', bh' = (if fr = to_ then g.length - bf else bh) → bf + bh' ≤ rs.length ∧ rs.length ≤ bf + bh' + 6 ∧ rs.take bf = g.take bf ∧ rs.drop (rs.length - bh') = g.drop (g.length - bh') := by
  obtain ⟨i, j, m1, m2, hij, hj, p1, p2, t1, t2, z1, z2, y1, y2⟩ := cut_idx hb (Nat.le_trans h h')
  obtain ⟨i', j', n1, n2, hij', hj', q1, q2, s1, s2, x1, x2, v1, v2⟩ := cut_idx hb h'
  refine ⟨i, g.length - j', by omega, by omega, fun k y hk hy => ?_, fun k y hk hy => ?_, ?_⟩
  · rw [hen, places_at 0 hg _ (by omega)] at hy
    injection hy with hy
    have := p1 (k + 1) (by omega); omega
  · rw [hen, places_at 0 hg _ (by omega)] at hy
    injection hy with hy
    have := q2 k (by omega); omega
  · rintro rs rfl bh' rfl
    by_cases he : fr = to_
    · subst he
      rw [List.take_append_drop, hb, runes8_encs hg]
      rw [if_pos rfl]
      exact ⟨by omega, by omega, rfl, rfl⟩
    · rw [if_neg he]
      have e : b.take fr ++ b.drop to_ = encs (g.take i) ++ ((m1 ++ n2) ++ encs (g.drop j')) := by rw [t1, s2]; simp
      have hr := runes8_mid (a := g.take i) (b := g.drop j') (m := m1 ++ n2) (fun r hr => hg r (List.mem_of_mem_take hr)) (fun r hr => hg r (List.mem_of_mem_drop hr)) (y1.app v2)
      rw [e, hr]
      have hp := runes8_le (m1 ++ n2)
      rw [List.length_append] at hp
      refine ⟨?_, ?_, mid_take _ (by omega), ?_⟩
      · simp only [List.length_append, List.length_take, List.length_drop]; omega
      · simp only [List.length_append, List.length_take, List.length_drop]; omega
      · rw [mid_drop _ (by omega) hj', show g.length - (g.length - j') = j' by omega]

theorem set_mid (P E S : List Int) (k : Nat) (c : Int) (h0 : P.length ≤ k) (h1 : k < P.length + E.length) : (P ++ (E ++ S)).set k c = P ++ (E.set (k - P.length) c ++ S) := by
  rw [List.set_append, if_neg (by omega), List.set_append, if_pos (by omega)]
/-- FnOtherByte -/
theorem other_facts {g b en : List Int} {at_ : Nat} {c : Int} (hg : ∀ r ∈ g, good r = true) (hb : b = encs g) (hen : en = places 0 g) (hc : 0 ≤ c ∧ c < 256) (h : at_ < b.length) :
    ∃ i : Nat, i < g.length ∧ (∀ (k : Nat) (y : Int), k < g.length → en[k + 1]? = some y → (y ≤ at_ ↔ k < i)) ∧
      ∀ rs, rs = runes8 (b.set at_ c) → g.length ≤ rs.length ∧ rs.length ≤ g.length + 3 ∧ rs.take i = g.take i ∧ rs.drop (rs.length - (g.length - (i + 1))) = g.drop (i + 1) := by
  obtain ⟨i, j, m1, m2, hij, hj, p1, p2, t1, t2, _, _, y1, y2⟩ := cut_idx hb (Nat.le_of_lt h)
  have hil : i < g.length := by
    have h1 := p1 g.length (Nat.le_refl _)
    rw [L_all, ← hb] at h1; omega
  have hr : g[i]? = some g[i] := List.getElem?_eq_getElem hil
  have hs := L_succ hr
  have a1 := (p1 i (by omega)).2 (Nat.le_refl _)
  have a2 : at_ < L g (i + 1) := by have := p1 (i + 1) (by omega); omega
  have el := enc_len g[i]
  have hsp : b = encs (g.take i) ++ (enc g[i] ++ encs (g.drop (i + 1))) := by rw [hb]; exact encs_split hr
  refine ⟨i, hil, fun k y hk hy => ?_, ?_⟩
  · rw [hen, places_at 0 hg _ (by omega)] at hy
    injection hy with hy
    have := p1 (k + 1) (by omega); omega
  · rintro rs rfl
    have hm : Bytes ((enc g[i]).set (at_ - L g i) c) := fun x hx => by
      rcases List.mem_or_eq_of_mem_set hx with e | e
      · exact enc_bytes _ x e
      · omega
    have e : b.set at_ c = encs (g.take i) ++ ((enc g[i]).set (at_ - L g i) c ++ encs (g.drop (i + 1))) := by
      rw [hsp]
      exact set_mid _ _ _ _ _ a1 (show at_ < L g i + (enc g[i]).length by omega)
    have hr := runes8_mid (a := g.take i) (b := g.drop (i + 1)) (fun r hr => hg r (List.mem_of_mem_take hr)) (fun r hr => hg r (List.mem_of_mem_drop hr)) hm
    rw [e, hr]
    have hl : ((enc g[i]).set (at_ - L g i) c).length = (enc g[i]).length := by simp
    have hp := runes8_pos (m := (enc g[i]).set (at_ - L g i) c) (fun e => by rw [e] at hl; simp at hl; omega)
    have hq := runes8_le ((enc g[i]).set (at_ - L g i) c)
    generalize (enc g[i]).set (at_ - L g i) c = M at *
    refine ⟨?_, ?_, mid_take _ (by omega), mid_drop _ (by omega) (by omega)⟩
    · simp only [List.length_append, List.length_take, List.length_drop]; omega
    · simp only [List.length_append, List.length_take, List.length_drop]; omega
end Go.Proofs.YtcbfbccmghdpgaaDoor
