/- Plain theory: lists in order, and the orders of both encodings. No program in it. -/
import Derived.Test.YtlbdhfpakajdaaaPlainMore
set_option linter.unusedVariables false
namespace Go.Proofs.Ytlbdhfpakajdaaa.P

def sgn (n : Int) : Int := if n < 0 then -1 else if n > 0 then 1 else 0
/-- lists in order, by the keys of their first two elements that differ -/
def ord (f : Int → Int) : List Int → List Int → Int
  | [], [] => 0
  | [], _ :: _ => -1
  | _ :: _, [] => 1
  | x :: xs, y :: ys => if x = y then ord f xs ys else sgn (f x - f y)

theorem ord_cons (f : Int → Int) (x y : Int) (xs ys : List Int) : ord f (x :: xs) (y :: ys) = if x = y then ord f xs ys else sgn (f x - f y) := rfl
theorem ord_step (f : Int → Int) {xs ys : List Int} {k : Nat} {x y : Int} (hx : xs[k]? = some x) (hy : ys[k]? = some y) :
    ord f (xs.drop k) (ys.drop k) = if x = y then ord f (xs.drop (k + 1)) (ys.drop (k + 1)) else sgn (f x - f y) := by
  obtain ⟨h, rfl⟩ := List.getElem?_eq_some_iff.1 hx
  obtain ⟨h', rfl⟩ := List.getElem?_eq_some_iff.1 hy
  rw [List.drop_eq_getElem_cons h, List.drop_eq_getElem_cons h']
  rfl
theorem ord_end (f : Int → Int) {xs ys : List Int} (h : xs.length = 0 ∨ ys.length = 0) : ord f xs ys = sgn ((xs.length : Int) - (ys.length : Int)) := by
  cases xs with
  | nil =>
    cases ys with
    | nil => simp [ord, sgn]
    | cons y ys => simp only [ord, sgn, List.length_nil, List.length_cons]; rw [if_pos (by omega)]
  | cons x xs =>
    cases ys with
    | nil => simp only [ord, sgn, List.length_nil, List.length_cons]; rw [if_neg (by omega), if_pos (by omega)]
    | cons y ys => simp at h
theorem ord_app (f : Int → Int) (p a b : List Int) : ord f (p ++ a) (p ++ b) = ord f a b := by
  induction p with
  | nil => rfl
  | cons x p ih => simp only [List.cons_append, ord_cons, if_true, ih]
theorem ord_nil_cons (f : Int → Int) (y : Int) (ys : List Int) : ord f [] (y :: ys) = -1 := rfl
theorem ord_cons_nil (f : Int → Int) (x : Int) (xs : List Int) : ord f (x :: xs) [] = 1 := rfl

set_option maxHeartbeats 4000000 in
theorem ord_enc {r s : Int} (hr : good r = true) (hs : good s = true) (hne : r ≠ s) (a b : List Int) : ord id (enc r ++ a) (enc s ++ b) = sgn (r - s) := by
  rcases enc_forms hr with ⟨_, _, e⟩ | ⟨_, _, e⟩ | ⟨_, _, _, e⟩ | ⟨_, _, e⟩ <;>
  rcases enc_forms hs with ⟨_, _, f⟩ | ⟨_, _, f⟩ | ⟨_, _, _, f⟩ | ⟨_, _, f⟩ <;>
  rw [e, f] <;> simp only [List.cons_append, List.nil_append, ord_cons, id] <;> repeat' split
  all_goals first
    | (exfalso; omega)
    | (unfold sgn; repeat' split) <;> omega

theorem ord_encs : ∀ {x y : List Int}, (∀ r ∈ x, good r = true) → (∀ r ∈ y, good r = true) → ord id (encs x) (encs y) = ord id x y
  | [], [], _, _ => rfl
  | [], s :: y, _, _ => by
    rw [encs_nil, encs_cons]
    obtain ⟨h, t, e, _⟩ := enc_head_tail s
    rw [e]; rfl
  | r :: x, [], _, _ => by
    rw [encs_nil, encs_cons]
    obtain ⟨h, t, e, _⟩ := enc_head_tail r
    rw [e]; rfl
  | r :: x, s :: y, hx, hy => by
    rw [encs_cons, encs_cons, ord_cons]
    by_cases h : r = s
    · subst h
      rw [if_pos rfl, ord_app, ord_encs (fun z hz => hx z (by simp [hz])) (fun z hz => hy z (by simp [hz]))]
    · rw [if_neg h, ord_enc (hx r (by simp)) (hy s (by simp)) h]; rfl

/-- surrogates behind all others -/
def key16 (u : Int) : Int := if isH u = true ∨ isL u = true then u + 65536 else u
theorem key16_val (u : Int) : key16 u = if 55296 ≤ u ∧ u < 57344 then u + 65536 else u := by
  unfold key16
  simp only [isH_iff, isL_iff]
  by_cases h : 55296 ≤ u ∧ u < 57344
  · rw [if_pos h, if_pos (by omega)]
  · rw [if_neg h, if_neg (by omega)]

theorem enc16_good {r : Int} (h : good r = true) : (r < 65536 ∧ (r < 55296 ∨ 57343 < r) ∧ 0 ≤ r ∧ enc16 r = [r]) ∨ (65536 ≤ r ∧ r ≤ 1114111 ∧ enc16 r = [55296 + (r - 65536) / 1024, 56320 + (r - 65536) % 1024]) := by
  have hf := fix_of_good h
  have hg := good_iff.1 h
  rcases enc16_forms r with ⟨h0, h1, _, _, e⟩ | ⟨h0, h1, _, _, e⟩ <;> rw [hf] at h0 h1 e
  · exact .inl ⟨h0, by omega, h1, e⟩
  · exact .inr ⟨h0, h1, e⟩

set_option maxHeartbeats 4000000 in
theorem ord_enc16 {r s : Int} (hr : good r = true) (hs : good s = true) (hne : r ≠ s) (a b : List Int) : ord key16 (enc16 r ++ a) (enc16 s ++ b) = sgn (r - s) := by
  rcases enc16_good hr with ⟨_, _, _, e⟩ | ⟨_, _, e⟩ <;>
  rcases enc16_good hs with ⟨_, _, _, f⟩ | ⟨_, _, f⟩ <;>
  rw [e, f] <;> simp only [List.cons_append, List.nil_append, ord_cons, key16_val] <;> repeat' split
  all_goals first
    | (exfalso; omega)
    | (unfold sgn; repeat' split) <;> omega

theorem ord_encs16 : ∀ {x y : List Int}, (∀ r ∈ x, good r = true) → (∀ r ∈ y, good r = true) → ord key16 (encs16 x) (encs16 y) = ord id x y
  | [], [], _, _ => rfl
  | [], s :: y, _, _ => by
    rw [encs16_nil, encs16_cons]
    rcases enc16_forms s with ⟨_, _, _, _, e⟩ | ⟨_, _, _, _, e⟩ <;> rw [e] <;> rfl
  | r :: x, [], _, _ => by
    rw [encs16_nil, encs16_cons]
    rcases enc16_forms r with ⟨_, _, _, _, e⟩ | ⟨_, _, _, _, e⟩ <;> rw [e] <;> rfl
  | r :: x, s :: y, hx, hy => by
    rw [encs16_cons, encs16_cons, ord_cons]
    by_cases h : r = s
    · subst h
      rw [if_pos rfl, ord_app, ord_encs16 (fun z hz => hx z (by simp [hz])) (fun z hz => hy z (by simp [hz]))]
    · rw [if_neg h, ord_enc16 (hx r (by simp)) (hy s (by simp)) h]; rfl

/-- the pairs that plain code units order the other way round -/
def flips (r s : Int) : Bool := decide (r > 65535 ∧ s ≥ 57344 ∧ s ≤ 65535 ∨ s > 65535 ∧ r ≥ 57344 ∧ r ≤ 65535)
def plainOrd : List Int → List Int → Int
  | [], [] => 0
  | [], _ :: _ => -1
  | _ :: _, [] => 1
  | x :: xs, y :: ys => if x = y then plainOrd xs ys else if flips x y = true then - sgn (x - y) else sgn (x - y)

set_option maxHeartbeats 4000000 in
theorem ord_plain16 {r s : Int} (hr : good r = true) (hs : good s = true) (hne : r ≠ s) (a b : List Int) : ord id (enc16 r ++ a) (enc16 s ++ b) = if flips r s = true then - sgn (r - s) else sgn (r - s) := by
  unfold flips
  rcases enc16_good hr with ⟨_, _, _, e⟩ | ⟨_, _, e⟩ <;>
  rcases enc16_good hs with ⟨_, _, _, f⟩ | ⟨_, _, f⟩ <;>
  rw [e, f] <;> simp only [List.cons_append, List.nil_append, ord_cons, id, decide_eq_true_eq] <;> repeat' split
  all_goals first
    | (exfalso; omega)
    | (unfold sgn; repeat' split) <;> omega

theorem ord_plain : ∀ {x y : List Int}, (∀ r ∈ x, good r = true) → (∀ r ∈ y, good r = true) → ord id (encs16 x) (encs16 y) = plainOrd x y
  | [], [], _, _ => rfl
  | [], s :: y, _, _ => by
    rw [encs16_nil, encs16_cons]
    rcases enc16_forms s with ⟨_, _, _, _, e⟩ | ⟨_, _, _, _, e⟩ <;> rw [e] <;> rfl
  | r :: x, [], _, _ => by
    rw [encs16_nil, encs16_cons]
    rcases enc16_forms r with ⟨_, _, _, _, e⟩ | ⟨_, _, _, _, e⟩ <;> rw [e] <;> rfl
  | r :: x, s :: y, hx, hy => by
    rw [encs16_cons, encs16_cons]
    show _ = if r = s then _ else _
    by_cases h : r = s
    · subst h
      rw [if_pos rfl, ord_app, ord_plain (fun z hz => hx z (by simp [hz])) (fun z hz => hy z (by simp [hz]))]
    · rw [if_neg h, ord_plain16 (hx r (by simp)) (hy s (by simp)) h]

theorem good_filter (l : List Int) : ∀ r ∈ l.filter good, good r = true := fun r h => (List.mem_filter.1 h).2
end Go.Proofs.Ytlbdhfpakajdaaa.P
