/- From the plain law of FnFromAnywhere to what its walk reads. -/
import Derived.Test.YtbjigbhjnmcdgaaDoorPlainFrom
import Derived.Test.YtbjigbhjnmcdgaaDoorDecBytes
import Derived.Test.YtbjigbhjnmcdgaaDoorMaps
set_option linter.unusedVariables false
namespace Go.Proofs.YtbjigbhjnmcdgaaDoor
open P

theorem ends_stops : ∀ (ds : List (Int × Nat)) (a : Nat), ((a : Int) :: ends a (ds.map fun d => (d.2 : Int))) = (stops a ds).map fun (x : Nat) => (x : Int)
  | [], a => rfl
  | d :: ds, a => by
    have h := ends_stops ds (a + d.2)
    simp only [stops, List.map_cons, ends]
    rw [← h]
    simp
theorem stops_last : ∀ (ds : List (Int × Nat)) (a : Nat), (stops a ds)[ds.length]? = some (a + (ds.map (·.2)).sum)
  | [], a => by simp [stops]
  | d :: ds, a => by
    have h := stops_last ds (a + d.2)
    simp only [stops, List.length_cons, List.getElem?_cons_succ, h, List.map_cons, List.sum_cons]
    congr 1; omega
theorem stops_length : ∀ (ds : List (Int × Nat)) (a : Nat), (stops a ds).length = ds.length + 1
  | [], a => rfl
  | d :: ds, a => by simp [stops, stops_length ds]
theorem stops_inj : ∀ (ds : List (Int × Nat)) (a : Nat), (∀ d ∈ ds, 1 ≤ d.2) → ∀ (i j x : Nat), (stops a ds)[i]? = some x → (stops a ds)[j]? = some x → i = j
  | [], a, _, i, j, x, h1, h2 => by
    obtain ⟨p, _⟩ := List.getElem?_eq_some_iff.1 h1
    obtain ⟨q, _⟩ := List.getElem?_eq_some_iff.1 h2
    simp [stops] at p q; omega
  | d :: ds, a, h, 0, 0, x, h1, h2 => rfl
  | d :: ds, a, h, 0, j + 1, x, h1, h2 => by
    simp only [stops, List.getElem?_cons_zero, List.getElem?_cons_succ, Option.some.injEq] at h1 h2
    have := stops_ge _ _ _ (List.mem_of_getElem? h2)
    have := h d (by simp); omega
  | d :: ds, a, h, i + 1, 0, x, h1, h2 => by
    simp only [stops, List.getElem?_cons_zero, List.getElem?_cons_succ, Option.some.injEq] at h1 h2
    have := stops_ge _ _ _ (List.mem_of_getElem? h1)
    have := h d (by simp); omega
  | d :: ds, a, h, i + 1, j + 1, x, h1, h2 => by
    simp only [stops, List.getElem?_cons_succ] at h1 h2
    rw [stops_inj ds _ (fun e he => h e (by simp [he])) i j x h1 h2]
theorem decs_each : ∀ (n : Nat) (l : List Int), l.length ≤ n → Bytes l → ∀ d ∈ decs l, 1 ≤ d.2 ∧ d.2 ≤ 4
  | 0, l, hn, hb, d, hd => by
    obtain rfl := List.eq_nil_of_length_eq_zero (Nat.le_zero.1 hn)
    simp [decs_nil] at hd
  | n + 1, l, hn, hb, d, hd => by
    by_cases hne : l = []
    · subst hne; simp [decs_nil] at hd
    obtain ⟨s1, s2, s3⟩ := dec1_size hb hne
    rw [decs_step hne] at hd
    rcases List.mem_cons.1 hd with e | e
    · subst e; exact ⟨s1, s2⟩
    · exact decs_each n _ (by simp; omega) (hb.drop _) d e
theorem sizes8_bounds {l s : List Int} (hb : Bytes l) (h : s = sizes8 l) : ∀ x ∈ s, -4 ≤ x ∧ x ≤ 4 := fun x hx => by
  rw [h] at hx
  obtain ⟨d, hd, rfl⟩ := List.mem_map.1 hx
  have := decs_each _ l (Nat.le_refl _) hb d hd; omega

/-- all that the walk of FnFromAnywhere asks -/
theorem from_facts {l en rs ss rt st : List Int} {at_ : Nat} (hb : Bytes l) (hat : at_ ≤ l.length) (hen : en = 0 :: ends 0 ss) (hrs : rs = runes8 l) (hss : ss = sizes8 l) (hrt : rt = runes8 (l.drop at_)) (hst : st = sizes8 (l.drop at_)) :
    ∃ lost i : Nat, lost ≤ 3 ∧ lost ≤ rt.length ∧ lost ≤ st.length ∧ i ≤ rs.length ∧ i < en.length ∧ i ≤ ss.length ∧ en[i]? = some ((at_ : Int) + lost) ∧ (∀ j : Nat, j < lost → decide ((at_ : Int) + j ∈ en) = false) ∧ decide ((at_ : Int) + lost ∈ en) = true ∧
      (∀ j : Nat, j < i → ∀ x, en[j]? = some x → x ≠ (at_ : Int) + lost) ∧ (∀ j : Nat, j < lost → rt[j]? = some 65533 ∧ st[j]? = some 1) ∧ rt.drop lost = rs.drop i ∧ st.drop lost = ss.drop i ∧ en[en.length - 1]? = some (l.length : Int) := by
  obtain ⟨lost, i, q1, q2, q3, q4, q5⟩ := from_any _ l 0 at_ (Nat.le_refl _) hb hat
  have hens : en = (stops 0 (decs l)).map fun (x : Nat) => (x : Int) := by rw [hen, hss]; exact ends_stops (decs l) 0
  obtain ⟨hi, _⟩ := List.getElem?_eq_some_iff.1 q3
  rw [stops_length] at hi
  have e1 : rt = List.replicate lost 65533 ++ rs.drop i := by rw [hrt, hrs]; unfold runes8; rw [q5]; simp [List.map_drop]
  have e2 : st = List.replicate lost 1 ++ ss.drop i := by rw [hst, hss]; unfold sizes8; rw [q5]; simp [List.map_drop]
  have el : en.length = (decs l).length + 1 := by rw [hens, List.length_map, stops_length]
  have eat : en[i]? = some ((at_ : Int) + lost) := by rw [hens, List.getElem?_map, q3]; simp
  refine ⟨lost, i, q1, by rw [e1]; simp, by rw [e2]; simp, by rw [hrs, runes8_len]; omega, by omega, by rw [hss, sizes8_len]; omega, eat, fun j hj => ?_, ?_, fun j hj x hx he => ?_, fun j hj => ?_, ?_, ?_, ?_⟩
  · rw [decide_eq_false_iff_not, hens]
    intro hm
    obtain ⟨y, hy, hyx⟩ := List.mem_map.1 hm
    exact q4 j hj (by rw [show 0 + at_ + j = y by omega]; exact hy)
  · rw [decide_eq_true_iff]; exact List.mem_of_getElem? eat
  · rw [hens, List.getElem?_map] at hx
    obtain ⟨y, hy, hyx⟩ := Option.map_eq_some_iff.1 hx
    have := stops_inj _ 0 (fun d hd => (decs_each _ l (Nat.le_refl _) hb d hd).1) j i (0 + at_ + lost) (by rw [hy]; congr 1; omega) q3
    omega
  · rw [e1, e2, List.getElem?_append_left (by simpa using hj), List.getElem?_append_left (by simpa using hj)]
    simp [hj]
  · rw [e1]; simp
  · rw [e2]; simp
  · rw [el, hens, List.getElem?_map, show (decs l).length + 1 - 1 = (decs l).length by omega, stops_last, decs_sum _ l (Nat.le_refl _) hb]; simp
end Go.Proofs.YtbjigbhjnmcdgaaDoor
