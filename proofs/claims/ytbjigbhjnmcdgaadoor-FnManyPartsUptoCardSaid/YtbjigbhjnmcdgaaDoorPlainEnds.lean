/- Plain theory: the places between the runes of a text. No program in it. -/
import Derived.Test.YtbjigbhjnmcdgaaDoorMaps
import Derived.Test.YtbjigbhjnmcdgaaDoorPlainMore
set_option linter.unusedVariables false
namespace Go.Proofs.YtbjigbhjnmcdgaaDoor
open P

theorem len8_good {r : Int} (h : good r = true) : len8 r = ((enc r).length : Int) := by unfold len8; rw [if_pos h]
theorem len8_bounds (r : Int) : -4 ≤ len8 r ∧ len8 r ≤ 4 := by
  unfold len8
  split
  · have := enc_len r; omega
  · omega
theorem lens_bounds {rs l : List Int} (h : l = rs.map fun x => len8 x) : ∀ x ∈ l, -4 ≤ x ∧ x ≤ 4 := fun x hx => by
  rw [h] at hx
  obtain ⟨r, _, rfl⟩ := List.mem_map.1 hx
  exact len8_bounds r
/-- the places at which a text's runes begin, and its end -/
def places (a : Int) (rs : List Int) : List Int := a :: ends a (rs.map fun x => len8 x)
theorem places_cons (a r : Int) (rs : List Int) : places a (r :: rs) = a :: places (a + len8 r) rs := rfl
theorem places_ge : ∀ (a : Int) {rs : List Int}, (∀ r ∈ rs, good r = true) → ∀ x ∈ places a rs, a ≤ x
  | a, [], _ => fun x hx => by simp [places, ends] at hx; omega
  | a, r :: rs, h => fun x hx => by
    rw [places_cons] at hx
    rcases List.mem_cons.1 hx with rfl | hx
    · omega
    · have h1 := places_ge (a + len8 r) (fun s hs => h s (by simp [hs])) x hx
      have h2 := len8_good (h r (by simp))
      have h3 := enc_len r
      omega
theorem mem_places : ∀ (a : Int) {rs : List Int}, (∀ r ∈ rs, good r = true) → ∀ (k : Nat) (x : Int), (encs rs)[k]? = some x → (a + k ∈ places a rs ↔ isC x = false)
  | a, [], _ => fun k x hx => by simp [encs_nil] at hx
  | a, r :: rs, h => fun k x hx => by
    have h2 := len8_good (h r (by simp))
    have h3 := enc_len r
    rw [places_cons, List.mem_cons]
    rw [encs_cons] at hx
    obtain ⟨hd, tl, e, hc, ht⟩ := enc_head_tail r
    by_cases hk : k < (enc r).length
    · rw [List.getElem?_append_left hk] at hx
      have hfar : ¬ (a + (k : Int)) ∈ places (a + len8 r) rs := fun hm => by
        have := places_ge (a + len8 r) (fun s hs => h s (by simp [hs])) _ hm
        omega
      by_cases h0 : k = 0
      · subst h0
        rw [e] at hx
        simp at hx
        subst hx
        simp [hc]
      · obtain ⟨j, rfl⟩ : ∃ j, k = j + 1 := ⟨k - 1, by omega⟩
        rw [e] at hx
        simp at hx
        have := ht x (List.mem_of_getElem? hx)
        rw [this]
        constructor
        · rintro (hh | hh)
          · omega
          · exact absurd hh hfar
        · intro hh; cases hh
    · rw [List.getElem?_append_right (by omega)] at hx
      have ih := mem_places (a + len8 r) (fun s hs => h s (by simp [hs])) (k - (enc r).length) x hx
      rw [← ih]
      have e2 : a + len8 r + ((k - (enc r).length : Nat) : Int) = a + k := by omega
      rw [e2]
      constructor
      · rintro (hh | hh)
        · omega
        · exact hh
      · exact fun hh => .inr hh
theorem places_last : ∀ (a : Int) {rs : List Int}, (∀ r ∈ rs, good r = true) → (places a rs)[rs.length]? = some (a + (encs rs).length)
  | a, [], _ => by simp [places, encs_nil]
  | a, r :: rs, h => by
    rw [places_cons, encs_cons]
    have h2 := len8_good (h r (by simp))
    have ih := places_last (a + len8 r) (rs := rs) (fun s hs => h s (by simp [hs]))
    simp only [List.length_cons, List.getElem?_cons_succ, ih, List.length_append]
    congr 1
    omega
theorem places_length (a : Int) (rs : List Int) : (places a rs).length = rs.length + 1 := by simp [places, ends_length]
end Go.Proofs.YtbjigbhjnmcdgaaDoor
