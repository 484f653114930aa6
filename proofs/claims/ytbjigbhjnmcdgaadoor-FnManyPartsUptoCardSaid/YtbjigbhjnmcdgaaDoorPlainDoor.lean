/- Plain theory: what is decoded of encoded texts, place by place. No program in it. -/
import Derived.Test.YtbjigbhjnmcdgaaDoorPlainFrom
import Derived.Test.YtbjigbhjnmcdgaaDoorPlainCuts
set_option linter.unusedVariables false
set_option linter.unusedSimpArgs false
namespace Go.Proofs.YtbjigbhjnmcdgaaDoor.P

theorem enc_four {r : Int} (h : good r = true) : ((enc r).length = 4 ∧ 65536 ≤ r) ∨ ((enc r).length ≤ 3 ∧ r < 65536) := by
  rcases enc_forms h with ⟨_, _, e⟩ | ⟨_, _, e⟩ | ⟨_, _, _, e⟩ | ⟨_, _, e⟩
  all_goals
    have := congrArg List.length e
    simp only [List.length_cons, List.length_nil] at this
    omega
theorem split_at {g : List Int} {k : Nat} {r : Int} (h : g[k]? = some r) : g = g.take k ++ r :: g.drop (k + 1) := by
  conv => lhs; rw [← List.take_append_drop k g, drop_cons_at h]
theorem encs16_split {g : List Int} {k : Nat} {r : Int} (h : g[k]? = some r) : encs16 g = encs16 (g.take k) ++ (enc16 r ++ encs16 (g.drop (k + 1))) := by
  conv => lhs; rw [split_at h, encs16_append, encs16_cons]
theorem encs_split {g : List Int} {k : Nat} {r : Int} (h : g[k]? = some r) : encs g = encs (g.take k) ++ (enc r ++ encs (g.drop (k + 1))) := by
  conv => lhs; rw [split_at h, encs_append, encs_cons]
theorem take_snoc {g : List Int} {k : Nat} {r : Int} (h : g[k]? = some r) : g.take (k + 1) = g.take k ++ [r] := by
  rw [List.take_add_one, h]; rfl
theorem encs16_one (r : Int) : encs16 [r] = enc16 r := by simp [encs16]
theorem encs_one (r : Int) : encs [r] = enc r := by simp [encs]

/-- what the walk of FnSizesTellUnits meets -/
theorem sizes_units {g us : List Int} {k : Nat} {r : Int} (hg : good r = true) (hu : us = encs16 g) (h : g[k]? = some r) (at_ : Nat) (hat : at_ = (encs16 (g.take k)).length) :
    (∃ x, us[at_]? = some x ∧ isL x = false ∧ isH x = false ∧ (enc r).length ≤ 3 ∧ (encs16 (g.take (k + 1))).length = at_ + 1 ∧ at_ + 1 ≤ us.length) ∨
    (∃ x y, us[at_]? = some x ∧ us[at_ + 1]? = some y ∧ isL x = false ∧ isH x = true ∧ isL y = true ∧ (enc r).length = 4 ∧ (encs16 (g.take (k + 1))).length = at_ + 2 ∧ at_ + 2 ≤ us.length) := by
  have e := encs16_split h
  have e2 : encs16 (g.take (k + 1)) = encs16 (g.take k) ++ enc16 r := by rw [take_snoc h, encs16_append, encs16_one]
  have hf := enc16_forms r
  rw [fix_of_good hg] at hf
  rcases hf with ⟨a, b, c, d, f⟩ | ⟨a, b, c, d, f⟩
  · rcases enc_four hg with ⟨_, h4⟩ | ⟨h3, _⟩
    · omega
    · refine .inl ⟨r, ?_, d, c, h3, ?_, ?_⟩
      · rw [hu, e, hat, f, List.getElem?_append_right (Nat.le_refl _)]; simp
      · rw [e2, f, hat]; simp
      · rw [hu, e, f, hat]; simp only [List.length_append, List.length_cons, List.length_nil]; omega
  · rcases enc_four hg with ⟨h4, _⟩ | ⟨_, h3⟩
    · have hp := isPair_iff.1 c
      refine .inr ⟨55296 + (r - 65536) / 1024, 56320 + (r - 65536) % 1024, ?_, ?_, ?_, ?_, ?_, h4, ?_, ?_⟩
      · rw [hu, e, hat, f, List.getElem?_append_right (Nat.le_refl _)]; simp
      · rw [hu, e, hat, f, List.getElem?_append_right (by omega)]; simp
      · rw [isL_false]; omega
      · rw [isH_iff]; omega
      · rw [isL_iff]; omega
      · rw [e2, f, hat]; simp
      · rw [hu, e, f, hat]; simp only [List.length_append, List.length_cons, List.length_nil]; omega
    · omega

/-! ### lengths -/
theorem text_lens : ∀ (g : List Int), (∀ r ∈ g, good r = true) → (encs16 g).length = g.length + (g.countP fun r => decide ((enc r).length = 4)) ∧ (encs16 g).length ≤ (encs g).length ∧ (encs g).length ≤ 3 * (encs16 g).length ∧
    ((encs g).length = (encs16 g).length ↔ ∀ x ∈ encs g, x < 128)
  | [], _ => by simp [encs_nil, encs16_nil]
  | r :: g, h => by
    obtain ⟨i1, i2, i3, i4⟩ := text_lens g fun x hx => h x (by simp [hx])
    have hg := h r (by simp)
    have hf := enc16_forms r
    rw [fix_of_good hg] at hf
    rw [encs_cons, encs16_cons, List.countP_cons]
    simp only [List.length_append, List.length_cons]
    have hall : (∀ x ∈ enc r ++ encs g, x < 128) ↔ (∀ x ∈ enc r, x < 128) ∧ ∀ x ∈ encs g, x < 128 := by
      simp only [List.mem_append]
      exact ⟨fun h => ⟨fun x hx => h x (.inl hx), fun x hx => h x (.inr hx)⟩, fun h x hx => hx.elim (h.1 x) (h.2 x)⟩
    rw [hall, ← i4]
    rcases enc_forms hg with ⟨a, b, e⟩ | ⟨a, b, e⟩ | ⟨a, b, _, e⟩ | ⟨a, b, e⟩
    · rcases hf with ⟨_, _, _, _, f⟩ | ⟨_, _, _, _, f⟩
      · rw [e, f]
        simp only [List.length_cons, List.length_nil, List.mem_singleton, forall_eq]
        refine ⟨by simp; omega, by omega, by omega, ?_⟩
        constructor
        · intro hh; exact ⟨b, by omega⟩
        · intro hh; omega
      · omega
    · rcases hf with ⟨_, _, _, _, f⟩ | ⟨_, _, _, _, f⟩
      · rw [e, f]
        simp only [List.length_cons, List.length_nil]
        refine ⟨by simp; omega, by omega, by omega, ?_⟩
        constructor
        · intro hh; omega
        · intro hh; have := hh.1 (192 + r / 64) (by simp); omega
      · omega
    · rcases hf with ⟨_, _, _, _, f⟩ | ⟨_, _, _, _, f⟩
      · rw [e, f]
        simp only [List.length_cons, List.length_nil]
        refine ⟨by simp; omega, by omega, by omega, ?_⟩
        constructor
        · intro hh; omega
        · intro hh; have := hh.1 (224 + r / 4096) (by simp); omega
      · omega
    · rcases hf with ⟨_, _, _, _, f⟩ | ⟨_, _, _, _, f⟩
      · omega
      · rw [e, f]
        simp only [List.length_cons, List.length_nil]
        refine ⟨by simp; omega, by omega, by omega, ?_⟩
        constructor
        · intro hh; omega
        · intro hh; have := hh.1 (240 + r / 262144) (by simp); omega

/-! ### code units there and back -/
def paired (us : List Int) (k : Nat) : Bool := (isH (us.getD k 0) && isL (us.getD (k + 1) 0)) || (decide (0 < k) && (isL (us.getD k 0) && isH (us.getD (k - 1) 0)))
theorem paired_two (u : Int) (t : List Int) (k : Nat) : paired (u :: t) (k + 2) = paired t (k + 1) := by
  unfold paired
  simp
theorem paired_one {u : Int} {t : List Int} (h : isPair u (t.getD 0 0) = false) (k : Nat) : paired (u :: t) (k + 1) = paired t k := by
  cases k with
  | succ k => exact paired_two u t k
  | zero =>
    unfold isPair at h
    unfold paired
    simp only [List.getD_cons_succ, List.getD_cons_zero, Nat.zero_add, Nat.lt_irrefl, decide_false, Bool.false_and, Bool.or_false, Nat.add_sub_cancel]
    cases h1 : isL (t.getD 0 0) <;> cases h2 : isH u <;> simp_all
theorem enc16_pair {u v : Int} (h : isPair u v = true) : enc16 (pairR u v) = [u, v] := by
  have hg := pair_good h
  rw [isPair_iff] at h
  have hf := enc16_forms (pairR u v)
  rw [fix_of_good hg.1] at hf
  rcases hf with ⟨a, _⟩ | ⟨_, _, _, _, f⟩
  · omega
  · rw [f]; unfold pairR; simp only [List.cons.injEq, and_true]; omega
theorem enc16_lone {u : Int} (h : 0 ≤ u) (k : u < 65536) : enc16 (loneR u) = [loneR u] := by
  have hg := lone_good u h k
  have hl : loneR u < 65536 := by unfold loneR; split <;> omega
  unfold enc16
  rw [fix_of_good hg, if_pos hl]
theorem back_units : ∀ (n : Nat) (us : List Int), us.length ≤ n → Units us → (encs16 (dec16 us)).length = us.length ∧ ∀ (k : Nat) (x : Int), us[k]? = some x → (encs16 (dec16 us))[k]? = some (if paired us k = true then x else loneR x)
  | 0, us, hn, _ => by
    obtain rfl := List.eq_nil_of_length_eq_zero (Nat.le_zero.1 hn)
    exact ⟨rfl, fun k x h => by simp at h⟩
  | n + 1, [], _, _ => ⟨rfl, fun k x h => by simp at h⟩
  | n + 1, [u], _, hu => by
    have h1 := hu u (by simp)
    rw [dec16_one, encs16_one, enc16_lone h1.1 h1.2]
    refine ⟨rfl, fun k x h => ?_⟩
    match k, h with
    | 0, h =>
      simp only [List.getElem?_cons_zero, Option.some.injEq] at h
      subst h
      have : paired [u] 0 = false := by unfold paired; simp [isL]
      rw [this]; simp
    | k + 1, h => simp at h
  | n + 1, u :: v :: t, hn, hu => by
    simp only [List.length_cons] at hn
    have h1 := hu u (by simp)
    by_cases hp : isPair u v = true
    · obtain ⟨i1, i2⟩ := back_units n t (by omega) fun x hx => hu x (by simp [hx])
      have hp2 := isPair_iff.1 hp
      rw [dec16_pair _ hp, encs16_cons, enc16_pair hp]
      refine ⟨by simp [i1], fun k x h => ?_⟩
      match k, h with
      | 0, h =>
        simp only [List.getElem?_cons_zero, Option.some.injEq] at h
        subst h
        have : paired (u :: v :: t) 0 = true := by unfold paired; simp [isH, isL]; omega
        rw [this]; simp
      | 1, h =>
        simp only [List.getElem?_cons_succ, List.getElem?_cons_zero, Option.some.injEq] at h
        subst h
        have : paired (u :: v :: t) 1 = true := by unfold paired; simp [isH, isL]; omega
        rw [this]; simp
      | k + 2, h =>
        rw [paired_two, paired_one (by rw [isPair_false]; omega)]
        exact i2 k x h
    · have hp' : isPair u v = false := by simpa using hp
      obtain ⟨i1, i2⟩ := back_units n (v :: t) (by simp; omega) fun x hx => hu x (List.mem_cons_of_mem _ hx)
      rw [dec16_lone _ hp', encs16_cons, enc16_lone h1.1 h1.2]
      refine ⟨by simp [i1], fun k x h => ?_⟩
      match k, h with
      | 0, h =>
        simp only [List.getElem?_cons_zero, Option.some.injEq] at h
        subst h
        have : paired (u :: v :: t) 0 = false := by unfold paired; simpa [isPair] using hp'
        rw [this]; simp
      | k + 1, h =>
        rw [paired_one hp']
        exact i2 k x h

/-- how often U+FFFD stands in a list -/
def bads (l : List Int) : Nat := l.countP fun r => decide (r = 65533)
theorem bads_nil : bads [] = 0 := rfl
theorem bads_snoc (l : List Int) (x : Int) : bads (l ++ [x]) = bads l + if x = 65533 then 1 else 0 := by
  unfold bads; rw [List.countP_append]; simp [List.countP_cons]
theorem bads_enc16 (l : List Int) (h : ∀ r ∈ l, good r = true) : bads (encs16 l) = bads l := by
  induction l with
  | nil => rfl
  | cons r l ih =>
    have hg := h r (by simp)
    have hf := enc16_forms r
    rw [fix_of_good hg] at hf
    have ih' := ih fun x hx => h x (by simp [hx])
    rw [encs16_cons]
    unfold bads at ih' ⊢
    rw [List.countP_append, ih', List.countP_cons]
    rcases hf with ⟨_, _, _, _, f⟩ | ⟨h0, _, hp, _, f⟩
    · rw [f]; simp only [List.countP_cons, List.countP_nil]; omega
    · have hp2 := isPair_iff.1 hp
      rw [f]; simp only [List.countP_cons, List.countP_nil, decide_eq_true_eq]
      rw [if_neg (by omega), if_neg (by omega), if_neg (by omega)]; omega
/-- whether a code unit is U+FFFD in the end -/
def badAt (us : List Int) (k : Nat) (x : Int) : Bool := decide (x = 65533) || ((isH x || isL x) && !paired us k)
theorem badAt_iff {us : List Int} {k : Nat} {x : Int} (h : us[k]? = some x) : badAt us k x = decide ((if paired us k = true then x else loneR x) = 65533) := by
  unfold badAt
  have hk : us.getD k 0 = x := by simp [h]
  cases hp : paired us k
  · simp only [Bool.false_eq_true, if_false, Bool.not_false, Bool.and_true]
    unfold loneR
    by_cases hs : isH x = true ∨ isL x = true
    · rw [if_pos hs]; rcases hs with e | e <;> simp [e]
    · rw [if_neg hs]
      have h1 : isH x = false := by cases e : isH x <;> simp_all
      have h2 : isL x = false := by cases e : isL x <;> simp_all
      simp [h1, h2]
  · simp
theorem bads_take {us : List Int} (hu : Units us) {k : Nat} {x : Int} (h : us[k]? = some x) : bads ((encs16 (dec16 us)).take (k + 1)) = bads ((encs16 (dec16 us)).take k) + if badAt us k x = true then 1 else 0 := by
  have h1 := (back_units _ us (Nat.le_refl _) hu).2 k x h
  rw [take_snoc h1, bads_snoc, badAt_iff h]
  simp
end Go.Proofs.YtbjigbhjnmcdgaaDoor.P
