/- Plain theory: how many runes the parts of a text have. -/
import Derived.Test.YtbjigbhjnmcdgaaDoorPlainDoor
import Derived.Test.YtbjigbhjnmcdgaaDoorPlainEnds
import Derived.Test.YtbjigbhjnmcdgaaDoorShelfE
import Derived.Lib.RuneCountTail
import Derived.Test.YtbjigbhjnmcdgaaDoorDec
set_option linter.unusedVariables false
namespace Go.Proofs.YtbjigbhjnmcdgaaDoor
open Go.RowKit P

theorem decs_part {r : Int} {p : Nat} (hg : good r = true) (h0 : 0 < p) (h1 : p < (enc r).length) : decs ((enc r).take p) = List.replicate p (65533, 1) := by
  obtain ⟨h, t, e, hh, ht⟩ := enc_head_tail r
  have hb := enc_bytes r
  obtain ⟨q, rfl⟩ : ∃ q, p = q + 1 := ⟨p - 1, by omega⟩
  have hd : dec1 ((enc r).take (q + 1)) = (65533, 1) := by
    refine dec1_none (hb.take _) (by rw [e]; simp) fun s hs hp => ?_
    have h2 : enc s <+: enc r := hp.trans (List.take_prefix _ _)
    have h3 := enc_prefix hs hg h2
    subst h3
    have := hp.length_le
    rw [List.length_take] at this; omega
  have e3 : ((enc r).take (q + 1)).drop 1 = t.take q := by rw [e]; simp
  have h4 : decs (t.take q ++ []) = List.replicate (t.take q).length (65533, 1) ++ decs [] := by
    refine decs_cont ?_ fun x hx => ht x (List.mem_of_mem_take hx)
    rw [List.append_nil, ← e3]
    exact (hb.take _).drop _
  rw [List.append_nil, decs_nil, List.append_nil] at h4
  rw [decs_step (by rw [e]; simp), hd]
  show _ :: decs (((enc r).take (q + 1)).drop 1) = _
  rw [e3, h4, List.length_take]
  rw [e, List.length_cons] at h1
  rw [Nat.min_eq_left (by omega), List.replicate_succ]

theorem place_of : ∀ (g : List Int) (at_ : Nat), at_ ≤ (encs g).length → ∃ i, i ≤ g.length ∧ ((encs (g.take i)).length = at_ ∨ ∃ r, g[i]? = some r ∧ (encs (g.take i)).length < at_ ∧ at_ < (encs (g.take i)).length + (enc r).length)
  | [], at_, h => ⟨0, by simp, .inl (by simp [encs_nil] at h ⊢; omega)⟩
  | r :: g, at_, h => by
    rw [encs_cons, List.length_append] at h
    by_cases h0 : at_ < (enc r).length
    · refine ⟨0, by omega, ?_⟩
      by_cases h1 : at_ = 0
      · left; simp [encs_nil, h1]
      · right; exact ⟨r, rfl, by simp [encs_nil]; omega, by simp [encs_nil]; omega⟩
    · obtain ⟨i, hi, hh⟩ := place_of g (at_ - (enc r).length) (by omega)
      refine ⟨i + 1, by simp; omega, ?_⟩
      rw [List.take_succ_cons, encs_cons, List.length_append]
      rcases hh with e | ⟨s, hs, a, b⟩
      · left; omega
      · right; exact ⟨s, by simpa using hs, by omega, by omega⟩

theorem encs_take_drop (g : List Int) (i : Nat) : encs g = encs (g.take i) ++ encs (g.drop i) := by
  rw [← encs_append, List.take_append_drop]

/-- where the i-th rune begins -/
def L (g : List Int) (i : Nat) : Nat := (encs (g.take i)).length
theorem L_succ {g : List Int} {i : Nat} {r : Int} (h : g[i]? = some r) : L g (i + 1) = L g i + (enc r).length := by
  unfold L; rw [take_snoc h, encs_append, encs_one, List.length_append]
theorem L_lt {g : List Int} {i : Nat} (h : i < g.length) : L g i < L g (i + 1) := by
  have := L_succ (List.getElem?_eq_getElem h)
  have := (enc_len g[i]).1; omega
theorem L_mono (g : List Int) : ∀ (j i : Nat), i ≤ j → L g i ≤ L g j
  | 0, i, h => by rw [Nat.le_zero.1 h]; exact Nat.le_refl _
  | j + 1, i, h => by
    by_cases e : i = j + 1
    · rw [e]; exact Nat.le_refl _
    · have h1 := L_mono g j i (by omega)
      by_cases hj : j < g.length
      · have := L_lt hj; omega
      · unfold L at h1 ⊢
        rw [List.take_of_length_le (l := g) (i := j + 1) (by omega)]
        rw [List.take_of_length_le (l := g) (i := j) (by omega)] at h1; exact h1
theorem L_all (g : List Int) : L g g.length = (encs g).length := by unfold L; rw [List.take_length]
theorem places_at : ∀ (a : Int) {g : List Int}, (∀ r ∈ g, good r = true) → ∀ i, i ≤ g.length → (places a g)[i]? = some (a + L g i)
  | a, g, _, 0, _ => by simp [places, L, encs_nil]
  | a, [], _, i + 1, h => by simp at h
  | a, r :: g, hg, i + 1, h => by
    rw [places_cons, List.getElem?_cons_succ, places_at _ (fun x hx => hg x (by simp [hx])) i (by simpa using h), len8_good (hg r (by simp))]
    unfold L
    rw [List.take_succ_cons, encs_cons, List.length_append]
    congr 1; omega


theorem count_go {l : List Int} (hb : Bytes l) : ∀ (fuel pos : Nat), l.length - pos ≤ fuel → Lib.runeCountFrom (ofInts l) fuel pos = (decs (l.drop pos)).length
  | 0, pos, h => by
    rw [List.drop_eq_nil_of_le (by omega)]; rfl
  | f + 1, pos, h => by
    show (if pos < (ofInts l).size then 1 + Lib.runeCountFrom (ofInts l) f (pos + (Utf8.decode (ofInts l) pos).2) else 0) = _
    rw [ofInts_size]
    by_cases hp : pos < l.length
    · have hne : l.drop pos ≠ [] := fun e => by have := congrArg List.length e; simp at this; omega
      have hd : (Utf8.decode (ofInts l) pos).2 = (dec1 (l.drop pos)).2 := by
        unfold dec1
        rw [if_neg hne, Lib.decode_at, ofInts_size, ofInts_get hb, ofInts_get hb, ofInts_get hb, ofInts_get hb, List.length_drop]
        simp only [List.getD_eq_getElem?_getD, List.getElem?_drop, Nat.add_zero]
      have hs := dec1_size (hb.drop pos) hne
      rw [if_pos hp, hd, count_go hb f _ (by omega), decs_step hne, List.length_cons, List.drop_drop]
      omega
    · rw [if_neg hp, List.drop_eq_nil_of_le (by omega)]; rfl
theorem runeCount_go {l : List Int} (hb : Bytes l) : Lib.runeCount (ofInts l) = (decs l).length := by
  unfold Lib.runeCount
  rw [count_go hb _ 0 (by rw [ofInts_size]; omega)]; rfl

/-- FnCountsOfCuts -/
theorem cut_counts {g b : List Int} {k : Nat} (hg : ∀ r ∈ g, good r = true) (hb : b = encs g) (hk : k ≤ b.length) :
    ∃ i j : Nat, i ≤ j ∧ j ≤ g.length ∧ (∀ m, m ≤ g.length → (L g m ≤ k ↔ m ≤ i)) ∧ (∀ m, m ≤ g.length → (k ≤ L g m ↔ j ≤ m)) ∧ L g i ≤ k ∧ k ≤ L g j ∧ L g j ≤ b.length ∧ (decs (b.take k)).length = i + (k - L g i) ∧ (decs (b.drop k)).length = (g.length - j) + (L g j - k) ∧ ((k < L g j ∧ j = i + 1) ∨ (L g j = k ∧ j = i)) := by
  obtain ⟨i, hi, hh⟩ := place_of g k (by rw [← hb]; exact hk)
  rcases hh with e | ⟨r, hr, h1, h2⟩
  · have e' : L g i = k := e
    refine ⟨i, i, Nat.le_refl _, hi, fun m hm => ?_, fun m hm => ?_, by omega, by omega, by omega, ?_, ?_, .inr ⟨e', rfl⟩⟩
    · constructor
      · intro hl
        by_cases hki : m ≤ i
        · exact hki
        · have a1 := L_lt (g := g) (i := i) (by omega)
          have a2 := L_mono g m (i + 1) (by omega); omega
      · intro hl; have := L_mono g i m hl; omega
    · constructor
      · intro hl
        by_cases hki : i ≤ m
        · exact hki
        · have a1 := L_lt (g := g) (i := m) (by omega)
          have a2 := L_mono g i (m + 1) (by omega); omega
      · intro hl; have := L_mono g m i hl; omega
    · have ht : b.take k = encs (g.take i) := by rw [hb, encs_take_drop g i, ← e]; simp
      rw [ht, decs_encs', List.length_map, List.length_take]; omega
    · have ht : b.drop k = encs (g.drop i) := by rw [hb, encs_take_drop g i, ← e]; simp
      rw [ht, decs_encs', List.length_map, List.length_drop]; omega
  · have hil : i < g.length := (List.getElem?_eq_some_iff.1 hr).1
    have hs := L_succ hr
    have h1' : L g i < k := h1
    have h2' : k < L g i + (enc r).length := h2
    have hgr := hg r (List.mem_of_getElem? hr)
    have hsp : b = encs (g.take i) ++ (enc r ++ encs (g.drop (i + 1))) := by rw [hb]; exact encs_split hr
    have hP : (encs (g.take i)).length = L g i := rfl
    have hbl := L_mono g g.length (i + 1) (by omega)
    rw [L_all, ← hb] at hbl
    obtain ⟨p, rfl⟩ : ∃ p, k = L g i + p := ⟨k - L g i, by omega⟩
    refine ⟨i, i + 1, by omega, by omega, fun m hm => ?_, fun m hm => ?_, by omega, by omega, hbl, ?_, ?_, .inl ⟨by omega, rfl⟩⟩
    · constructor
      · intro hl
        by_cases hki : m ≤ i
        · exact hki
        · have a2 := L_mono g m (i + 1) (by omega); omega
      · intro hl; have := L_mono g i m hl; omega
    · constructor
      · intro hl
        by_cases hki : i + 1 ≤ m
        · exact hki
        · have a2 := L_mono g i m (by omega); omega
      · intro hl; have := L_mono g m (i + 1) hl; omega
    · have ht : b.take (L g i + p) = encs (g.take i) ++ (enc r).take p := by
        rw [hsp, List.take_append, List.take_append, hP]
        rw [List.take_of_length_le (by omega), show L g i + p - L g i = p by omega, show p - (enc r).length = 0 by omega]; simp
      rw [ht, decs_encs, List.length_append, List.length_map, List.length_take, decs_part hgr (by omega) (by omega), List.length_replicate]; omega
    · have ht : b.drop (L g i + p) = (enc r).drop p ++ encs (g.drop (i + 1)) := by
        rw [hsp, List.drop_append, List.drop_append, hP]
        rw [List.drop_eq_nil_of_le (by omega), show L g i + p - L g i = p by omega, show p - (enc r).length = 0 by omega]; simp
      rw [ht, decs_cont (((enc_bytes r).drop _).app (encs_bytes _)) ?_, List.length_append, List.length_replicate, List.length_drop, decs_encs', List.length_map, List.length_drop]
      · omega
      · obtain ⟨h, t, e, hh, htt⟩ := enc_head_tail r
        obtain ⟨q, rfl⟩ : ∃ q, p = q + 1 := ⟨p - 1, by omega⟩
        rw [e]
        intro x hx
        exact htt x (List.mem_of_mem_drop (by simpa using hx))
end Go.Proofs.YtbjigbhjnmcdgaaDoor
