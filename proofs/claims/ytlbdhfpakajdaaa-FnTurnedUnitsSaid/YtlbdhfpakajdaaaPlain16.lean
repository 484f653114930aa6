/- Plain theory of UTF-16 on lists of integers: code units of numbers, and what code units are decoded to. No program in it. -/
import Derived.Test.YtlbdhfpakajdaaaPlain
namespace Go.Proofs.Ytlbdhfpakajdaaa.P

def isH (u : Int) : Bool := decide (55296 ≤ u ∧ u < 56320)
def isL (u : Int) : Bool := decide (56320 ≤ u ∧ u < 57344)
theorem isH_iff {u : Int} : isH u = true ↔ 55296 ≤ u ∧ u < 56320 := by simp [isH]
theorem isL_iff {u : Int} : isL u = true ↔ 56320 ≤ u ∧ u < 57344 := by simp [isL]
theorem isH_false {u : Int} : isH u = false ↔ ¬ (55296 ≤ u ∧ u < 56320) := by simp [isH]
theorem isL_false {u : Int} : isL u = false ↔ ¬ (56320 ≤ u ∧ u < 57344) := by simp [isL]
def Units (l : List Int) : Prop := ∀ x ∈ l, 0 ≤ x ∧ x < 65536

/-- the code units of a number -/
def enc16 (r : Int) : List Int :=
  if fix r < 65536 then [fix r] else [55296 + (fix r - 65536) / 1024, 56320 + (fix r - 65536) % 1024]
def encs16 (rs : List Int) : List Int := rs.flatMap enc16
/-- the code point of a pair -/
def pairR (a b : Int) : Int := (a - 55296) * 1024 + (b - 56320) + 65536
/-- a code unit alone -/
def loneR (u : Int) : Int := if isH u = true ∨ isL u = true then 65533 else u
def isPair (u v : Int) : Bool := isH u && isL v
theorem isPair_iff {u v : Int} : isPair u v = true ↔ (55296 ≤ u ∧ u < 56320) ∧ (56320 ≤ v ∧ v < 57344) := by simp [isPair, isH, isL]
theorem isPair_false {u v : Int} : isPair u v = false ↔ ¬ ((55296 ≤ u ∧ u < 56320) ∧ (56320 ≤ v ∧ v < 57344)) := by
  rw [← isPair_iff]; simp

def dec16F : Nat → List Int → List Int
  | 0, _ => []
  | _ + 1, [] => []
  | _ + 1, [u] => [loneR u]
  | f + 1, u :: v :: t => if isPair u v = true then pairR u v :: dec16F f t else loneR u :: dec16F f (v :: t)
/-- what code units are decoded to -/
def dec16 (l : List Int) : List Int := dec16F l.length l

theorem dec16F_more : ∀ (f g : Nat) (l : List Int), l.length ≤ f → l.length ≤ g → dec16F f l = dec16F g l
  | 0, 0, _, _, _ => rfl
  | 0, g + 1, [], _, _ => rfl
  | f + 1, 0, [], _, _ => rfl
  | 0, g + 1, _ :: _, h, _ => by simp at h
  | f + 1, 0, _ :: _, _, h => by simp at h
  | f + 1, g + 1, [], _, _ => rfl
  | f + 1, g + 1, [u], _, _ => rfl
  | f + 1, g + 1, u :: v :: t, h, k => by
    simp only [dec16F]
    simp only [List.length_cons] at h k
    rw [dec16F_more f g t (by omega) (by omega), dec16F_more f g (v :: t) (by simp; omega) (by simp; omega)]

theorem dec16_nil : dec16 [] = [] := rfl
theorem dec16_one (u : Int) : dec16 [u] = [loneR u] := rfl
theorem dec16_pair {u v : Int} (t : List Int) (h : isPair u v = true) : dec16 (u :: v :: t) = pairR u v :: dec16 t := by
  show (if isPair u v = true then _ else _) = _
  rw [if_pos h, dec16F_more _ _ t (by simp) (Nat.le_refl _)]; rfl
theorem dec16_lone {u v : Int} (t : List Int) (h : isPair u v = false) : dec16 (u :: v :: t) = loneR u :: dec16 (v :: t) := by
  show (if isPair u v = true then _ else _) = _
  rw [if_neg (by simp [h])]; rfl

/-- the step by places -/
theorem dec16_cons (u : Int) (t : List Int) (h : ∀ v t', t = v :: t' → isPair u v = false) : dec16 (u :: t) = loneR u :: dec16 t := by
  cases t with
  | nil => rfl
  | cons v t => exact dec16_lone t (h v t rfl)

theorem dec16_append : ∀ (n : Nat) (p s : List Int), p.length ≤ n → (∀ a b q t, p = q ++ [a] → s = b :: t → isPair a b = false) → dec16 (p ++ s) = dec16 p ++ dec16 s
  | 0, p, s, h, _ => by
    have : p = [] := List.eq_nil_of_length_eq_zero (by omega)
    subst this; rfl
  | n + 1, [], s, _, _ => rfl
  | n + 1, [u], s, _, h => by
    cases s with
    | nil => rfl
    | cons v t => 
      have := h u v [] t rfl rfl
      simp only [List.cons_append, List.nil_append]
      rw [dec16_lone t this, dec16_one]; rfl
  | n + 1, u :: v :: p, s, hn, h => by
    simp only [List.length_cons] at hn
    by_cases hp : isPair u v = true
    · simp only [List.cons_append]
      rw [dec16_pair _ hp, dec16_pair _ hp, dec16_append n p s (by omega) (fun a b q t e f => h a b (u :: v :: q) t (by rw [e]; rfl) f)]
      rfl
    · have hp' : isPair u v = false := by simpa using hp
      have ih := dec16_append n (v :: p) s (by simp; omega) (fun a b q t e f => h a b (u :: q) t (by rw [e]; rfl) f)
      simp only [List.cons_append] at ih ⊢
      rw [dec16_lone _ hp', dec16_lone _ hp', ih]
      rfl

theorem dec16_split {p s : List Int} (h : ∀ a b q t, p = q ++ [a] → s = b :: t → isPair a b = false) : dec16 (p ++ s) = dec16 p ++ dec16 s := dec16_append _ p s (Nat.le_refl _) h

theorem enc16_forms (r : Int) : (fix r < 65536 ∧ 0 ≤ fix r ∧ isH (fix r) = false ∧ isL (fix r) = false ∧ enc16 r = [fix r]) ∨
    (65536 ≤ fix r ∧ fix r ≤ 1114111 ∧ isPair (55296 + (fix r - 65536) / 1024) (56320 + (fix r - 65536) % 1024) = true ∧ pairR (55296 + (fix r - 65536) / 1024) (56320 + (fix r - 65536) % 1024) = fix r ∧
      enc16 r = [55296 + (fix r - 65536) / 1024, 56320 + (fix r - 65536) % 1024]) := by
  have hg := fix_good r
  rw [good_iff] at hg
  unfold enc16
  by_cases h : fix r < 65536
  · left; rw [if_pos h]; exact ⟨h, by omega, by rw [isH_false]; omega, by rw [isL_false]; omega, rfl⟩
  · right; rw [if_neg h]; exact ⟨by omega, by omega, by rw [isPair_iff]; omega, by unfold pairR; omega, rfl⟩

theorem enc16_fix (r : Int) : enc16 (fix r) = enc16 r := by unfold enc16; rw [fix_fix]
theorem enc16_len (r : Int) : 1 ≤ (enc16 r).length ∧ (enc16 r).length ≤ 2 := by unfold enc16; split <;> simp
theorem enc16_units (r : Int) : Units (enc16 r) := by
  intro x hx
  rcases enc16_forms r with ⟨h0, h1, _, _, e⟩ | ⟨h0, h1, _, _, e⟩ <;> rw [e] at hx <;> simp at hx <;> omega
theorem encs16_units (rs : List Int) : Units (encs16 rs) := fun x hx => by
  obtain ⟨r, _, hr⟩ := List.mem_flatMap.1 hx
  exact enc16_units r x hr
theorem encs16_nil : encs16 [] = [] := rfl
theorem encs16_cons (r : Int) (rs : List Int) : encs16 (r :: rs) = enc16 r ++ encs16 rs := by simp [encs16]
theorem encs16_append (a b : List Int) : encs16 (a ++ b) = encs16 a ++ encs16 b := by simp [encs16]

/-- the first code unit of a number is no second half -/
theorem enc16_head (r : Int) (t : List Int) : ∀ b u, enc16 r ++ t = b :: u → isL b = false := by
  intro b u h
  rcases enc16_forms r with ⟨_, _, _, h2, e⟩ | ⟨h0, h1, hp, _, e⟩
  · rw [e] at h; simp at h; rw [← h.1]; exact h2
  · rw [e] at h; simp at h; rw [← h.1, isL_false]; rw [isPair_iff] at hp; omega
theorem encs16_head (rs : List Int) : ∀ b u, encs16 rs = b :: u → isL b = false := by
  cases rs with
  | nil => intro b u h; simp [encs16] at h
  | cons r rs => rw [encs16_cons]; exact enc16_head r _

theorem dec16_enc16 (r : Int) (t : List Int) : dec16 (enc16 r ++ t) = fix r :: dec16 t := by
  rcases enc16_forms r with ⟨_, _, h1, h2, e⟩ | ⟨_, _, hp, hr, e⟩
  · rw [e]
    simp only [List.cons_append, List.nil_append]
    rw [dec16_cons _ _ (fun v t' _ => by simp [isPair, h1])]
    simp [loneR, h1, h2]
  · rw [e]
    simp only [List.cons_append, List.nil_append]
    rw [dec16_pair _ hp, hr]
theorem dec16_encs16 (rs t : List Int) : dec16 (encs16 rs ++ t) = rs.map fix ++ dec16 t := by
  induction rs with
  | nil => rfl
  | cons r rs ih => rw [encs16_cons, List.append_assoc, dec16_enc16, ih]; rfl
theorem dec16_encs16' (rs : List Int) : dec16 (encs16 rs) = rs.map fix := by
  have := dec16_encs16 rs []
  simpa [dec16_nil] using this

theorem lone_good (u : Int) (h : 0 ≤ u) (k : u < 65536) : good (loneR u) = true := by
  unfold loneR
  split
  · decide
  · rename_i hn
    simp only [isH_iff, isL_iff] at hn
    rw [good_iff]; omega
theorem pair_good {u v : Int} (h : isPair u v = true) : good (pairR u v) = true ∧ 65536 ≤ pairR u v := by
  rw [isPair_iff] at h
  rw [good_iff]
  unfold pairR
  omega

/-- what is decoded are code points -/
theorem dec16_good : ∀ (n : Nat) (l : List Int), l.length ≤ n → Units l → ∀ r ∈ dec16 l, good r = true
  | 0, l, h, _ => by
    have : l = [] := List.eq_nil_of_length_eq_zero (by omega)
    subst this; intro r hr; cases hr
  | n + 1, [], _, _ => by intro r hr; cases hr
  | n + 1, [u], _, hu => by
    intro r hr
    rw [dec16_one] at hr
    simp at hr; subst hr
    have := hu u (by simp)
    exact lone_good u this.1 this.2
  | n + 1, u :: v :: t, hn, hu => by
    intro r hr
    simp only [List.length_cons] at hn
    have h1 := hu u (by simp)
    by_cases hp : isPair u v = true
    · rw [dec16_pair _ hp] at hr
      rcases List.mem_cons.1 hr with rfl | hr
      · exact (pair_good hp).1
      · exact dec16_good n t (by omega) (fun x hx => hu x (by simp [hx])) r hr
    · have hp' : isPair u v = false := by simpa using hp
      rw [dec16_lone _ hp'] at hr
      rcases List.mem_cons.1 hr with rfl | hr
      · exact lone_good u h1.1 h1.2
      · exact dec16_good n (v :: t) (by simp; omega) (fun x hx => hu x (List.mem_cons_of_mem _ hx)) r hr

theorem dec16_length_le : ∀ (n : Nat) (l : List Int), l.length ≤ n → (dec16 l).length ≤ l.length
  | 0, l, h => by
    have : l = [] := List.eq_nil_of_length_eq_zero (by omega)
    subst this; simp [dec16_nil]
  | n + 1, [], _ => by simp [dec16_nil]
  | n + 1, [u], _ => by simp [dec16_one]
  | n + 1, u :: v :: t, hn => by
    simp only [List.length_cons] at hn
    by_cases hp : isPair u v = true
    · rw [dec16_pair _ hp]
      have := dec16_length_le n t (by omega)
      simp; omega
    · have hp' : isPair u v = false := by simpa using hp
      rw [dec16_lone _ hp']
      have := dec16_length_le n (v :: t) (by simp; omega)
      simp at this ⊢; omega
theorem dec16_le (l : List Int) : (dec16 l).length ≤ l.length := dec16_length_le _ l (Nat.le_refl _)

theorem map_fix_good {rs : List Int} (h : ∀ r ∈ rs, good r = true) : rs.map fix = rs := by
  induction rs with
  | nil => rfl
  | cons r rs ih => rw [List.map_cons, fix_of_good (h r (by simp)), ih (fun x hx => h x (by simp [hx]))]

end Go.Proofs.Ytlbdhfpakajdaaa.P
