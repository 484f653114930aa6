/- Plain theory: code units in the opposite order. No program in it. -/
import Derived.Test.YtlbdhfpakajdaaaPlainMore
set_option linter.unusedVariables false
namespace Go.Proofs.Ytlbdhfpakajdaaa.P

def rev16 (rs : List Int) : List Int := rs.flatMap fun r => (enc16 r).reverse
theorem rev16_cons (r : Int) (t : List Int) : rev16 (r :: t) = (enc16 r).reverse ++ rev16 t := by simp [rev16]
theorem rev16_of (g : List Int) : (encs16 g).reverse = rev16 g.reverse := by
  induction g with
  | nil => rfl
  | cons r g ih => rw [encs16_cons, List.reverse_append, ih, List.reverse_cons]; simp [rev16]

/-- the runes of turned code units -/
def second (r : Int) : List Int → List Int
  | s :: _ => if 65536 ≤ s then [r - r % 1024 + s % 1024] else [65533]
  | [] => [65533]
def turnT : Bool → List Int → List Int
  | _, [] => []
  | pb, r :: t => if r < 65536 then r :: turnT false t else (if pb = true then [] else [65533]) ++ second r t ++ turnT true t

theorem big_forms {r : Int} (hg : good r = true) (h : 65536 ≤ r) : ∃ a b, enc16 r = [a, b] ∧ isH a = true ∧ isL a = false ∧ isL b = true ∧ isH b = false ∧ a = 55296 + (r - 65536) / 1024 ∧ b = 56320 + (r - 65536) % 1024 := by
  have hf := enc16_forms r
  rw [fix_of_good hg] at hf
  rcases hf with ⟨a, _⟩ | ⟨a, b, c, d, f⟩
  · omega
  · have := isPair_iff.1 c
    refine ⟨_, _, f, ?_, ?_, ?_, ?_, rfl, rfl⟩
    · rw [isH_iff]; omega
    · rw [isL_false]; omega
    · rw [isL_iff]; omega
    · rw [isH_false]; omega
theorem small_forms {r : Int} (hg : good r = true) (h : r < 65536) : enc16 r = [r] ∧ isH r = false ∧ isL r = false := by
  have hf := enc16_forms r
  rw [fix_of_good hg] at hf
  rcases hf with ⟨a, b, c, d, f⟩ | ⟨a, _⟩
  · exact ⟨f, c, d⟩
  · omega

theorem turned_both : ∀ (n : Nat) (rs : List Int), rs.length ≤ n → (∀ r ∈ rs, good r = true) → dec16 (rev16 rs) = turnT false rs ∧
    ∀ r, good r = true → 65536 ≤ r → dec16 ((55296 + (r - 65536) / 1024) :: rev16 rs) = second r rs ++ turnT true rs
  | 0, rs, hn, hg => by
    obtain rfl := List.eq_nil_of_length_eq_zero (Nat.le_zero.1 hn)
    refine ⟨rfl, fun r hr h => ?_⟩
    obtain ⟨a, b, e, h1, h2, h3, h4, ha, hb⟩ := big_forms hr h
    show dec16 [_] = [65533] ++ []
    rw [dec16_one, ← ha]
    unfold loneR; rw [if_pos (.inl h1)]; rfl
  | n + 1, [], _, _ => by
    refine ⟨rfl, fun r hr h => ?_⟩
    obtain ⟨a, b, e, h1, h2, h3, h4, ha, hb⟩ := big_forms hr h
    show dec16 [_] = [65533] ++ []
    rw [dec16_one, ← ha]
    unfold loneR; rw [if_pos (.inl h1)]; rfl
  | n + 1, s :: t, hn, hg => by
    simp only [List.length_cons] at hn
    have hs := hg s (by simp)
    have ht : ∀ r ∈ t, good r = true := fun r hr => hg r (by simp [hr])
    obtain ⟨ih1, ih2⟩ := turned_both n t (by omega) ht
    have first : dec16 (rev16 (s :: t)) = turnT false (s :: t) := by
      rw [rev16_cons]
      by_cases hb : s < 65536
      · obtain ⟨e, h1, h2⟩ := small_forms hs hb
        rw [e]
        show dec16 (s :: rev16 t) = _
        rw [dec16_cons s _ (fun v _ _ => by simp [isPair, h1]), ih1]
        show _ = if s < 65536 then _ else _
        rw [if_pos hb]
        unfold loneR; rw [if_neg (by simp [h1, h2])]
      · obtain ⟨a, b, e, h1, h2, h3, h4, ha, hb'⟩ := big_forms hs (by omega)
        rw [e]
        show dec16 (b :: a :: rev16 t) = _
        rw [dec16_lone _ (by simp [isPair, h4]), ha, ih2 s hs (by omega)]
        show _ = if s < 65536 then _ else _
        rw [if_neg hb]
        unfold loneR; rw [if_pos (.inr h3)]; simp
    refine ⟨first, fun r hr h => ?_⟩
    obtain ⟨a, b, e, h1, h2, h3, h4, ha, hb⟩ := big_forms hr h
    rw [← ha]
    by_cases hbs : s < 65536
    · obtain ⟨e', k1, k2⟩ := small_forms hs hbs
      have hx : rev16 (s :: t) = s :: rev16 t := by rw [rev16_cons, e']; rfl
      rw [hx, dec16_lone _ (by simp [isPair, k2]), ← hx, first]
      unfold loneR; rw [if_pos (.inl h1)]
      show 65533 :: (if s < 65536 then _ else _) = (if 65536 ≤ s then _ else _) ++ (if s < 65536 then _ else _)
      rw [if_pos hbs, if_neg (by omega), if_pos hbs]; rfl
    · obtain ⟨a', b', e', k1, k2, k3, k4, ha', hb''⟩ := big_forms hs (by omega)
      rw [rev16_cons, e']
      show dec16 (a :: b' :: a' :: rev16 t) = _
      rw [dec16_pair _ (by simp [isPair, h1, k3]), ha', ih2 s hs (by omega)]
      show _ = (if 65536 ≤ s then _ else _) ++ (if s < 65536 then _ else _)
      rw [if_pos (by omega), if_neg hbs]
      have : pairR a b' = r - r % 1024 + s % 1024 := by rw [ha, hb'']; unfold pairR; omega
      rw [this]; simp
theorem turned_dec {g : List Int} (hg : ∀ r ∈ g, good r = true) : dec16 (encs16 g).reverse = turnT false g.reverse := by
  rw [rev16_of]
  exact (turned_both _ _ (Nat.le_refl _) fun r hr => hg r (List.mem_reverse.1 hr)).1

theorem rev_snoc {g : List Int} {k : Nat} {x : Int} (h : g[k]? = some x) : (g.take (k + 1)).reverse = x :: (g.take k).reverse := by
  rw [List.take_add_one, h]; simp
/-- one rune more, from the end -/
theorem turn_small {g : List Int} {k : Nat} {x : Int} (pb : Bool) (h : g[k]? = some x) (hx : x < 65536) : turnT pb (g.take (k + 1)).reverse = [x] ++ turnT false (g.take k).reverse := by
  rw [rev_snoc h]
  show (if x < 65536 then _ else _) = _
  rw [if_pos hx]; rfl
theorem turn_big {g : List Int} {k : Nat} {x : Int} (pb : Bool) (h : g[k]? = some x) (hx : ¬ x < 65536) : turnT pb (g.take (k + 1)).reverse = (if pb = true then [] else [65533]) ++ second x (g.take k).reverse ++ turnT true (g.take k).reverse := by
  rw [rev_snoc h]
  show (if x < 65536 then _ else _) = _
  rw [if_neg hx]
theorem second_zero {g : List Int} (x : Int) : second x (g.take 0).reverse = [65533] := rfl
theorem second_some {g : List Int} {k : Nat} {y : Int} (x : Int) (h : g[k]? = some y) : second x (g.take (k + 1)).reverse = if 65536 ≤ y then [x - x % 1024 + y % 1024] else [65533] := by
  rw [rev_snoc h]; rfl
end Go.Proofs.Ytlbdhfpakajdaaa.P
