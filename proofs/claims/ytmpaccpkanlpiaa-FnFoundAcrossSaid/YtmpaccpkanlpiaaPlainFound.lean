/- Plain theory: beginnings and places of texts, in any code whose first unit tells itself from the further ones. No program in it. -/
import Derived.Test.YtmpaccpkanlpiaaPlainOrder
set_option linter.unusedVariables false
namespace Go.Proofs.Ytmpaccpkanlpiaa.P

/-- a code: no encoding is empty or begins with another one; the first unit is known as such -/
structure IsCode (c : Int → List Int) (T : Int → Bool) : Prop where
  uniq : ∀ r s l, good r = true → good s = true → c r <+: l → c s <+: l → r = s
  head : ∀ r, good r = true → ∃ h t, c r = h :: t ∧ T h = false ∧ ∀ x ∈ t, T x = true

theorem code8 : IsCode enc isC := ⟨fun _ _ _ hr hs h k => enc_unique hr hs h k, fun r _ => enc_head_tail r⟩
theorem code16 : IsCode enc16 isL := by
  refine ⟨fun r s l hr hs h k => ?_, fun r hr => ?_⟩
  · obtain ⟨t, rfl⟩ := h
    obtain ⟨u, hu⟩ := k
    have h1 := dec16_enc16 r t
    rw [← hu, dec16_enc16, fix_of_good hr, fix_of_good hs] at h1
    injection h1 with h1 _
    exact h1.symm
  · rcases enc16_forms r with ⟨_, _, _, h, e⟩ | ⟨_, _, hp, _, e⟩
    · exact ⟨_, _, e, h, fun x hx => by cases hx⟩
    · rw [isPair_iff] at hp
      exact ⟨_, _, e, isL_false.2 (by omega), fun x hx => by simp at hx; subst hx; exact isL_iff.2 hp.2⟩

section
variable {c : Int → List Int} {T : Int → Bool} (hc : IsCode c T)
include hc
theorem flat_prefix : ∀ {x y : List Int}, (∀ r ∈ x, good r = true) → (∀ r ∈ y, good r = true) → (x.flatMap c <+: y.flatMap c ↔ x <+: y)
  | [], y, _, _ => by simp
  | r :: x, [], hx, _ => by
    obtain ⟨h, t, e, _⟩ := hc.head r (hx r (by simp))
    simp [e]
  | r :: x, s :: y, hx, hy => by
    have hr := hx r (by simp)
    have hs := hy s (by simp)
    simp only [List.flatMap_cons, List.cons_prefix_cons]
    constructor
    · intro h
      have h1 : c r <+: c s ++ y.flatMap c := (List.prefix_append _ _).trans h
      have e := hc.uniq r s _ hr hs h1 (List.prefix_append _ _)
      subst e
      rw [List.prefix_append_right_inj] at h
      exact ⟨rfl, (flat_prefix (fun z hz => hx z (by simp [hz])) (fun z hz => hy z (by simp [hz]))).1 h⟩
    · rintro ⟨rfl, h⟩
      rw [List.prefix_append_right_inj]
      exact (flat_prefix (fun z hz => hx z (by simp [hz])) (fun z hz => hy z (by simp [hz]))).2 h
end

/-- how often a list stands in another one -/
def occ (p : List Int) : List Int → Nat
  | [] => 0
  | a :: l => (if p <+: a :: l then 1 else 0) + occ p l

theorem occ_skip {T : Int → Bool} {h : Int} {p : List Int} (hh : T h = false) : ∀ (t l : List Int), (∀ x ∈ t, T x = true) → occ (h :: p) (t ++ l) = occ (h :: p) l
  | [], l, _ => rfl
  | x :: t, l, ht => by
    show (if h :: p <+: x :: (t ++ l) then 1 else 0) + occ (h :: p) (t ++ l) = _
    rw [if_neg, occ_skip hh t l (fun y hy => ht y (by simp [hy]))]
    · omega
    · intro hp
      rw [List.cons_prefix_cons] at hp
      have := ht x (by simp)
      rw [← hp.1, hh] at this
      cases this

theorem occ_flat {c : Int → List Int} {T : Int → Bool} (hc : IsCode c T) {x : List Int} (hne : x ≠ []) (hx : ∀ r ∈ x, good r = true) : ∀ {y : List Int}, (∀ r ∈ y, good r = true) → occ (x.flatMap c) (y.flatMap c) = occ x y
  | [], _ => rfl
  | s :: y, hy => by
    have hs := hy s (by simp)
    have hf : ((x.flatMap c) <+: (s :: y).flatMap c) ↔ x <+: s :: y := flat_prefix hc hx hy
    obtain ⟨h, t, e, hh, ht⟩ := hc.head s hs
    obtain ⟨r, x', rfl⟩ := List.exists_cons_of_ne_nil hne
    obtain ⟨h', t', e', hh', _⟩ := hc.head r (hx r (by simp))
    have ih := occ_flat hc hne hx (y := y) (fun z hz => hy z (by simp [hz]))
    simp only [List.flatMap_cons] at hf ih ⊢
    rw [e, e'] at hf
    rw [e'] at ih
    rw [e, e']
    simp only [List.cons_append] at hf ih ⊢
    show (if h' :: (t' ++ x'.flatMap c) <+: h :: (t ++ y.flatMap c) then 1 else 0) + occ (h' :: (t' ++ x'.flatMap c)) (t ++ y.flatMap c) = (if r :: x' <+: s :: y then 1 else 0) + occ (r :: x') y
    rw [occ_skip hh' t _ ht, ih]
    congr 1
    by_cases hp : r :: x' <+: s :: y
    · rw [if_pos hp, if_pos (hf.2 hp)]
    · rw [if_neg hp, if_neg (fun h => hp (hf.1 h))]

theorem encs_prefix {x y : List Int} (hx : ∀ r ∈ x, good r = true) (hy : ∀ r ∈ y, good r = true) : encs x <+: encs y ↔ x <+: y := flat_prefix code8 hx hy
theorem encs16_prefix {x y : List Int} (hx : ∀ r ∈ x, good r = true) (hy : ∀ r ∈ y, good r = true) : encs16 x <+: encs16 y ↔ x <+: y := flat_prefix code16 hx hy
theorem occ_encs {x y : List Int} (hne : x ≠ []) (hx : ∀ r ∈ x, good r = true) (hy : ∀ r ∈ y, good r = true) : occ (encs x) (encs y) = occ x y := occ_flat code8 hne hx hy
theorem occ_encs16 {x y : List Int} (hne : x ≠ []) (hx : ∀ r ∈ x, good r = true) (hy : ∀ r ∈ y, good r = true) : occ (encs16 x) (encs16 y) = occ x y := occ_flat code16 hne hx hy

theorem occ_le (p l : List Int) : occ p l ≤ l.length := by
  induction l with
  | nil => simp [occ]
  | cons a l ih => simp only [occ, List.length_cons]; split <;> omega
theorem occ_drop (p : List Int) {l : List Int} {k : Nat} (hk : k < l.length) : occ p (l.drop k) = (if p <+: l.drop k then 1 else 0) + occ p (l.drop (k + 1)) := by
  rw [List.drop_eq_getElem_cons hk]; rfl
/-- the comparison of the program -/
theorem prefix_take (p l : List Int) : p <+: l ↔ p.length ≤ l.length ∧ l.take p.length = p := by
  rw [List.prefix_iff_eq_take]
  constructor
  · intro h
    refine ⟨?_, h.symm⟩
    have := congrArg List.length h
    simp at this
    omega
  · rintro ⟨_, h⟩; exact h.symm
end Go.Proofs.Ytmpaccpkanlpiaa.P
