/- What is valid, by the runes that are decoded; and the plain law of FnValidCuts. -/
import Derived.Test.YtbjigbhjnmcdgaaDoorWord
import Derived.Test.YtbjigbhjnmcdgaaDoorPlainFrom
set_option linter.unusedVariables false
namespace Go.Proofs.YtbjigbhjnmcdgaaDoor
open Go.RowKit P

theorem vld_nil : vld [] = true := rfl
theorem vld_step {l : List Int} (hb : Bytes l) (hne : l ≠ []) : vld l = if dec1 l = (65533, 1) then false else vld (l.drop (dec1 l).2) := by
  unfold vld
  rw [Lib.validD_step _ (by simpa using hne)]
  obtain ⟨e1, e2⟩ := decodeL_go hb hne
  rw [List.map_drop, e2]
  by_cases h : dec1 l = (65533, 1)
  · rw [if_pos h, if_pos]
    rw [h] at e1 e2
    exact ⟨by simp at e1; omega, by rw [h]⟩
  · rw [if_neg h, if_neg]
    rintro ⟨h1, h2⟩
    refine h (Prod.ext ?_ h2)
    rw [← e1, h1]; rfl
theorem vld_iff : ∀ (n : Nat) (l : List Int), l.length ≤ n → Bytes l → (vld l = true ↔ ∀ d ∈ decs l, d ≠ (65533, 1))
  | 0, l, hn, _ => by
    obtain rfl := List.eq_nil_of_length_eq_zero (Nat.le_zero.1 hn)
    simp [vld_nil, decs_nil]
  | n + 1, l, hn, hb => by
    by_cases hne : l = []
    · subst hne; simp [vld_nil, decs_nil]
    obtain ⟨s1, _, s3⟩ := dec1_size hb hne
    have ih := vld_iff n (l.drop (dec1 l).2) (by simp; omega) (hb.drop _)
    rw [vld_step hb hne, decs_step hne]
    by_cases h : dec1 l = (65533, 1)
    · rw [if_pos h]
      simp [h]
    · rw [if_neg h, ih]
      simp [h]
/-- what is empty, or begins with a byte that can be a first one -/
def startsB (p : List Int) : Bool :=
  match p with
  | [] => true
  | x :: _ => !isC x
theorem startsB_iff (p : List Int) : startsB p = true ↔ Starts p := by
  cases p with
  | nil => simp [startsB, starts_nil]
  | cons x t =>
    simp only [startsB, Bool.not_eq_true']
    constructor
    · intro h y u e; injection e with e1 _; rw [← e1]; exact h
    · intro h; exact h x t rfl
theorem starts_flat {ps : List (List Int)} (h : ∀ p ∈ ps, Starts p) : Starts ps.flatten := by
  induction ps with
  | nil => exact starts_nil
  | cons p ps ih =>
    cases p with
    | nil => rw [List.flatten_cons, List.nil_append]; exact ih fun q hq => h q (List.mem_cons_of_mem _ hq)
    | cons x t =>
      intro y u e
      have h2 := h (x :: t) (by simp) x t rfl
      rw [List.flatten_cons, List.cons_append] at e
      injection e with e1 _
      rw [← e1]; exact h2
theorem decs_flat {ps : List (List Int)} (hb : ∀ p ∈ ps, Bytes p) (h : ∀ p ∈ ps, Starts p) : decs ps.flatten = ps.flatMap decs := by
  induction ps with
  | nil => rfl
  | cons p ps ih =>
    have hbf : Bytes ps.flatten := fun x hx => by
      obtain ⟨q, hq, hx⟩ := List.mem_flatten.1 hx
      exact hb q (List.mem_cons_of_mem _ hq) x hx
    rw [List.flatten_cons, decs_split (hb p (by simp)) hbf (starts_flat fun q hq => h q (List.mem_cons_of_mem _ hq)), List.flatMap_cons, ih (fun q hq => hb q (List.mem_cons_of_mem _ hq)) (fun q hq => h q (List.mem_cons_of_mem _ hq))]
theorem valid_cuts {g : List Int} {ps : List (List Int)} (hg : ∀ r ∈ g, good r = true) (hf : ps.flatten = encs g) :
    ps.all vld = ps.all startsB ∧ (ps.all vld = true → (ps.map fun p => ((decs p).length : Int)).sum = (g.length : Int)) := by
  have hbs : ∀ p ∈ ps, Bytes p := fun p hp x hx => encs_bytes g x (by rw [← hf]; exact List.mem_flatten.2 ⟨p, hp, hx⟩)
  have one : ∀ p ∈ ps, vld p = true → Starts p := fun p hp hv x t e => by
    have hp' := hbs p hp
    have h1 := (vld_iff _ p (Nat.le_refl _) hp').1 hv
    cases hx : isC x with
    | false => rfl
    | true =>
      subst e
      rw [decs_step (by simp), dec1_cont hp' hx] at h1
      exact absurd rfl (h1 _ (by simp))
  have two : (∀ p ∈ ps, Starts p) → (∀ p ∈ ps, vld p = true) ∧ (ps.map fun p => ((decs p).length : Int)).sum = (g.length : Int) := fun hs => by
    have hd := decs_flat hbs hs
    rw [hf, decs_encs'] at hd
    constructor
    · intro p hp
      refine (vld_iff _ p (Nat.le_refl _) (hbs p hp)).2 fun d hd' => ?_
      have hm : d ∈ g.map (fun r => (fix r, (enc r).length)) := by rw [hd]; exact List.mem_flatMap.2 ⟨p, hp, hd'⟩
      obtain ⟨r, hr, rfl⟩ := List.mem_map.1 hm
      intro e
      simp only [Prod.mk.injEq] at e
      obtain ⟨e1, e2⟩ := e
      rw [fix_of_good (hg r hr)] at e1
      subst e1
      exact absurd e2 (by decide)
    · have hl := congrArg List.length hd
      rw [List.length_map, List.length_flatMap] at hl
      rw [hl]
      clear hl hd hs one hbs hf
      induction ps with
      | nil => rfl
      | cons p ps ih => simp only [List.map_cons, List.sum_cons, ih]; omega
  constructor
  · rw [Bool.eq_iff_iff, List.all_eq_true, List.all_eq_true]
    constructor
    · intro h p hp; exact (startsB_iff p).2 (one p hp (h p hp))
    · intro h; exact (two fun p hp => (startsB_iff p).1 (h p hp)).1
  · intro h
    rw [List.all_eq_true] at h
    exact (two fun p hp => one p hp (h p hp)).2
end Go.Proofs.YtbjigbhjnmcdgaaDoor
