/- Plain theory of UTF-8, part two: the last rune of some bytes, and that it is the last one of all. No program in it. -/
import Derived.Test.YtlbdhfpakajdaaaPlain
namespace Go.Proofs.Ytlbdhfpakajdaaa.P

def lastStart (l : List Int) : Nat :=
  if l.length < 2 then 0
  else if isC (l.getD (l.length - 2) 0) = false then l.length - 2
  else if l.length < 3 then 0
  else if isC (l.getD (l.length - 3) 0) = false then l.length - 3
  else if l.length < 4 then 0
  else if isC (l.getD (l.length - 4) 0) = false then l.length - 4
  else if l.length < 5 then 0 else l.length - 5
/-- what the program's DecodeLastRune gives -/
def decLast (l : List Int) : Int × Nat :=
  if l = [] then (65533, 0)
  else if l.getD (l.length - 1) 0 < 128 then (l.getD (l.length - 1) 0, 1)
  else if lastStart l + (dec1 (l.drop (lastStart l))).2 = l.length then dec1 (l.drop (lastStart l)) else (65533, 1)

theorem lastStart_lt {l : List Int} (h : l ≠ []) : lastStart l < l.length := by
  have := List.length_pos_iff.2 h
  unfold lastStart
  repeat' split
  all_goals omega

theorem getD_app_right (p q : List Int) (i : Nat) (h : p.length ≤ i) : (p ++ q).getD i 0 = q.getD (i - p.length) 0 := by
  simp only [List.getD_eq_getElem?_getD]
  rw [List.getElem?_append_right h]

theorem decLast_enc {r : Int} (p : List Int) (hg : good r = true) : decLast (p ++ enc r) = (r, (enc r).length) := by
  have hd : dec1 (enc r) = (r, (enc r).length) := dec1_enc hg (List.prefix_refl _)
  have hne : p ++ enc r ≠ [] := by simp [enc_ne]
  unfold decLast
  rw [if_neg hne]
  have done : ∀ n, (enc r).length = n → lastStart (p ++ enc r) = p.length → ¬ (p ++ enc r).getD ((p ++ enc r).length - 1) 0 < 128 →
      (if (p ++ enc r).getD ((p ++ enc r).length - 1) 0 < 128 then ((p ++ enc r).getD ((p ++ enc r).length - 1) 0, 1)
        else if lastStart (p ++ enc r) + (dec1 ((p ++ enc r).drop (lastStart (p ++ enc r)))).2 = (p ++ enc r).length then dec1 ((p ++ enc r).drop (lastStart (p ++ enc r))) else (65533, 1)) = (r, (enc r).length) := by
    intro n _ hs hl
    rw [if_neg hl, hs, List.drop_left, hd, if_pos (by simp)]
  rcases enc_forms hg with ⟨h0, h1, e⟩ | ⟨h0, h1, e⟩ | ⟨h0, h1, h2, e⟩ | ⟨h0, h1, e⟩
  · rw [e, getD_app_right _ _ _ (by simp)]
    simp; omega
  · refine done 2 (by rw [e]; rfl) ?_ ?_
    · rw [e]; unfold lastStart
      rw [if_neg (by simp), if_pos (by rw [getD_app_right _ _ _ (by simp)]; simp [isC]; omega)]; simp
    · rw [e, getD_app_right _ _ _ (by simp)]; simp; omega
  · refine done 3 (by rw [e]; rfl) ?_ ?_
    · rw [e]; unfold lastStart
      rw [if_neg (by simp), if_neg (by rw [getD_app_right _ _ _ (by simp)]; simp [isC]; omega), if_neg (by simp),
        if_pos (by rw [getD_app_right _ _ _ (by simp)]; simp [isC]; omega)]; simp
    · rw [e, getD_app_right _ _ _ (by simp)]; simp; omega
  · refine done 4 (by rw [e]; rfl) ?_ ?_
    · rw [e]; unfold lastStart
      rw [if_neg (by simp), if_neg (by rw [getD_app_right _ _ _ (by simp)]; simp [isC]; omega), if_neg (by simp),
        if_neg (by rw [getD_app_right _ _ _ (by simp)]; simp [isC]; omega), if_neg (by simp), if_pos (by rw [getD_app_right _ _ _ (by simp)]; simp [isC]; omega)]; simp
    · rw [e, getD_app_right _ _ _ (by simp)]; simp; omega

theorem decLast_cases {l : List Int} (hb : Bytes l) (hne : l ≠ []) :
    (decLast l = (65533, 1) ∧ ∀ r p, good r = true → l ≠ p ++ enc r) ∨ ∃ r p, good r = true ∧ l = p ++ enc r ∧ decLast l = (r, (enc r).length) := by
  by_cases h : ∃ r p, good r = true ∧ l = p ++ enc r
  · obtain ⟨r, p, hg, rfl⟩ := h
    exact .inr ⟨r, p, hg, rfl, decLast_enc p hg⟩
  · refine .inl ⟨?_, fun r p hg e => h ⟨r, p, hg, e⟩⟩
    unfold decLast
    rw [if_neg hne]
    have hl := List.length_pos_iff.2 hne
    split
    · rename_i hlt
      exfalso
      refine h ⟨l.getD (l.length - 1) 0, l.take (l.length - 1), ?_, ?_⟩
      · have := hb (l.getD (l.length - 1) 0) (by
          rw [List.getD_eq_getElem?_getD, List.getElem?_eq_getElem (by omega)]; simp)
        rw [good_iff]; omega
      · have hx := hb (l.getD (l.length - 1) 0) (by
          rw [List.getD_eq_getElem?_getD, List.getElem?_eq_getElem (by omega)]; simp)
        rw [enc, Lib.encodeRuneZ_one hx.1 (by omega), List.getD_eq_getElem?_getD, List.getElem?_eq_getElem (by omega)]
        have := List.take_append_drop (l.length - 1) l
        rw [List.drop_eq_getElem_cons (by omega)] at this
        simp only [Option.getD_some]
        rw [show l.length - 1 + 1 = l.length by omega, List.drop_length] at this
        exact this.symm
    · split
      · rename_i hs
        have hsl := lastStart_lt hne
        have hdne : l.drop (lastStart l) ≠ [] := by
          intro e; have := congrArg List.length e; simp at this; omega
        rcases dec1_cases (hb.drop _) hdne with e | ⟨r, hg, hp, e⟩
        · exact e
        · exfalso
          rw [e] at hs
          refine h ⟨r, l.take (lastStart l), hg, ?_⟩
          have e2 : enc r = l.drop (lastStart l) := hp.eq_of_length (by simp; omega)
          rw [e2, List.take_append_drop]
      · rfl

theorem decLast_size {l : List Int} (hb : Bytes l) (hne : l ≠ []) : 1 ≤ (decLast l).2 ∧ (decLast l).2 ≤ 4 ∧ (decLast l).2 ≤ l.length := by
  rcases decLast_cases hb hne with ⟨e, _⟩ | ⟨r, p, _, hl, e⟩
  · rw [e]; have := List.length_pos_iff.2 hne; simp; omega
  · rw [e]; have := enc_len r; simp only; rw [hl]; simp; omega

/-- if the last one is an error of one byte, the others are those of the bytes ahead of it -/
theorem decs_init : ∀ (n : Nat) {p : List Int} {x : Int}, p.length ≤ n → Bytes (p ++ [x]) → (∀ r q, good r = true → p ++ [x] ≠ q ++ enc r) → decs (p ++ [x]) = decs p ++ [(65533, 1)]
  | n, p, x, hn, hb, h => by
    by_cases hne : p = []
    · subst hne
      have : dec1 [x] = (65533, 1) := by
        rcases dec1_cases (l := [x]) hb (by simp) with e | ⟨r, hg, hp, _⟩
        · exact e
        · exfalso
          have h1 := enc_len r
          exact h r [] hg (hp.eq_of_length (by have := hp.length_le; simp at this ⊢; omega)).symm
      simp only [List.nil_append]
      rw [decs_step (by simp), this]
      simp [decs_nil]
    · cases n with
      | zero => exact absurd (List.eq_nil_of_length_eq_zero (by omega)) hne
      | succ n =>
        have hd : dec1 (p ++ [x]) = dec1 p := by
          rcases dec1_cases hb (by simp) with e | ⟨r, hg, hp, e⟩
          · rcases dec1_cases hb.left hne with f | ⟨r, hg, hp, _⟩
            · rw [e, f]
            · exact absurd (hp.trans (List.prefix_append p [x])) (dec1_err e r hg)
          · by_cases hle : (enc r).length ≤ p.length
            · rw [e, dec1_enc hg (List.prefix_of_prefix_length_le hp (List.prefix_append p [x]) hle)]
            · exact absurd (hp.eq_of_length (by have := hp.length_le; simp at this ⊢; omega)).symm (h r [] hg)
        obtain ⟨h1, _, h2⟩ := dec1_size hb.left hne
        rw [decs_step (l := p ++ [x]) (by simp), decs_step hne, hd, List.drop_append_of_le_length h2,
          decs_init n (p := p.drop (dec1 p).2) (x := x) (by simp; omega) ((hb.left.drop _).app hb.right) (fun r q hg e => h r (p.take (dec1 p).2 ++ q) hg (by
            rw [List.append_assoc, ← e, ← List.append_assoc, List.take_append_drop]))]
        rfl

theorem decs_last {l : List Int} (hb : Bytes l) (hne : l ≠ []) : decs l = decs (l.take (l.length - (decLast l).2)) ++ [decLast l] := by
  rcases decLast_cases hb hne with ⟨e, h⟩ | ⟨r, p, hg, hl, e⟩
  · rw [e]
    have hd := List.dropLast_concat_getLast hne
    rw [← hd] at h hb
    have := decs_init _ (Nat.le_refl _) hb h
    rw [hd] at this
    rw [this, ← List.dropLast_eq_take]
  · rw [e]
    subst hl
    rw [decs_split hb.left hb.right (by simpa using starts_enc r [])]
    have h1 := decs_enc r []
    simp only [List.append_nil, decs_nil] at h1
    rw [h1, fix_of_good hg]
    simp

end Go.Proofs.Ytlbdhfpakajdaaa.P
