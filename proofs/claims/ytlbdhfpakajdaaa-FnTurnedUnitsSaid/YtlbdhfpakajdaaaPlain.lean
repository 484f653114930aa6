/- Plain theory of UTF-8 as a prefix code, on lists of integers: encodings, the first rune, the last rune, all runes. No program in it. -/
import Derived.Lib.RuneBytes
import Derived.Lib.DecodeN
namespace Go.Proofs.Ytlbdhfpakajdaaa.P

/-- a code point that can be encoded -/
def good (r : Int) : Bool := decide ((0 ≤ r ∧ r < 55296) ∨ (57343 < r ∧ r ≤ 1114111))
/-- what a number becomes -/
def fix (r : Int) : Int := if good r = true then r else 65533
/-- a byte that continues an encoding -/
def isC (b : Int) : Bool := decide (128 ≤ b ∧ b < 192)
def enc (r : Int) : List Int := Lib.encodeRuneZ r
def encs (rs : List Int) : List Int := rs.flatMap enc
def Bytes (l : List Int) : Prop := ∀ x ∈ l, 0 ≤ x ∧ x < 256

theorem good_iff {r : Int} : good r = true ↔ (0 ≤ r ∧ r < 55296) ∨ (57343 < r ∧ r ≤ 1114111) := by simp [good]
theorem good_false {r : Int} : good r = false ↔ ¬ ((0 ≤ r ∧ r < 55296) ∨ (57343 < r ∧ r ≤ 1114111)) := by simp [good]
theorem isC_iff {b : Int} : isC b = true ↔ 128 ≤ b ∧ b < 192 := by simp [isC]
theorem fix_good (r : Int) : good (fix r) = true := by
  unfold fix; split
  · assumption
  · decide
theorem fix_of_good {r : Int} (h : good r = true) : fix r = r := by simp [fix, h]
theorem fix_fix (r : Int) : fix (fix r) = fix r := fix_of_good (fix_good r)
theorem fix_bad {r : Int} (h : good r = false) : fix r = 65533 := by simp [fix, h]

theorem enc_fix (r : Int) : enc (fix r) = enc r := by
  unfold fix
  split
  · rfl
  · rename_i h
    have h2 : good r = false := by simpa using h
    rw [good_false] at h2
    have e : enc r = [239, 191, 189] := Lib.encodeRuneZ_bad (by omega)
    rw [e]; decide

/-- the four forms of an encoding -/
theorem enc_forms {r : Int} (h : good r = true) :
    (0 ≤ r ∧ r < 128 ∧ enc r = [r]) ∨
    (128 ≤ r ∧ r < 2048 ∧ enc r = [192 + r / 64, 128 + r % 64]) ∨
    (2048 ≤ r ∧ r < 65536 ∧ (r < 55296 ∨ 57343 < r) ∧ enc r = [224 + r / 4096, 128 + r / 64 % 64, 128 + r % 64]) ∨
    (65536 ≤ r ∧ r ≤ 1114111 ∧ enc r = [240 + r / 262144, 128 + r / 4096 % 64, 128 + r / 64 % 64, 128 + r % 64]) := by
  rw [good_iff] at h
  by_cases h1 : r < 128
  · exact .inl ⟨by omega, h1, Lib.encodeRuneZ_one (by omega) (by omega)⟩
  by_cases h2 : r < 2048
  · exact .inr (.inl ⟨by omega, h2, Lib.encodeRuneZ_two (by omega) (by omega)⟩)
  by_cases h3 : r < 65536
  · exact .inr (.inr (.inl ⟨by omega, h3, by omega, Lib.encodeRuneZ_three (by omega)⟩))
  · exact .inr (.inr (.inr ⟨by omega, by omega, Lib.encodeRuneZ_four (by omega) (by omega)⟩))

theorem enc_len (r : Int) : 1 ≤ (enc r).length ∧ (enc r).length ≤ 4 := Lib.encodeRuneZ_length r
theorem enc_ne (r : Int) : enc r ≠ [] := fun h => by have := (enc_len r).1; rw [h] at this; simp at this
theorem enc_bytes (r : Int) : Bytes (enc r) := Lib.encodeRuneZ_byte r

/-- the first byte of an encoding does not continue one, all others do -/
theorem enc_head_tail (r : Int) : ∃ h t, enc r = h :: t ∧ isC h = false ∧ ∀ x ∈ t, isC x = true := by
  rw [← enc_fix]
  generalize hs : fix r = s
  have hg : good s = true := hs ▸ fix_good r
  rcases enc_forms hg with ⟨_, _, e⟩ | ⟨_, _, e⟩ | ⟨_, _, _, e⟩ | ⟨_, _, e⟩ <;> rw [e] <;> refine ⟨_, _, rfl, ?_, ?_⟩
  all_goals first
    | (simp only [isC, decide_eq_false_iff_not]; omega)
    | (intro x hx; simp at hx; done)
    | (intro x hx; simp at hx; rw [isC_iff]; omega)

/-- no encoding begins another one -/
theorem enc_prefix {r s : Int} (hr : good r = true) (hs : good s = true) (h : enc r <+: enc s) : r = s := by
  rcases enc_forms hr with ⟨_, _, e⟩ | ⟨_, _, e⟩ | ⟨_, _, _, e⟩ | ⟨_, _, e⟩ <;>
  rcases enc_forms hs with ⟨_, _, f⟩ | ⟨_, _, f⟩ | ⟨_, _, _, f⟩ | ⟨_, _, f⟩ <;>
  rw [e, f] at h <;> simp [List.cons_prefix_cons] at h <;> omega

theorem enc_inj {r s : Int} (hr : good r = true) (hs : good s = true) (h : enc r = enc s) : r = s := enc_prefix hr hs (h ▸ List.prefix_refl _)
theorem enc_inj_fix {r s : Int} (h : enc r = enc s) : fix r = fix s := by
  rw [← enc_fix r, ← enc_fix s] at h
  exact enc_inj (fix_good r) (fix_good s) h

/-- at most one encoding begins some bytes -/
theorem enc_unique {r s : Int} {l : List Int} (hr : good r = true) (hs : good s = true) (h : enc r <+: l) (k : enc s <+: l) : r = s := by
  rcases List.prefix_or_prefix_of_prefix h k with e | e
  · exact enc_prefix hr hs e
  · exact (enc_prefix hs hr e).symm

/-- an encoding that some bytes begin with begins two parts of them only if the second part begins with a byte that continues -/
theorem enc_over {r : Int} {p s : List Int} (hp : p ≠ []) (h : enc r <+: p ++ s) (hs : ∀ x t, s = x :: t → isC x = false) : enc r <+: p := by
  rcases List.prefix_or_prefix_of_prefix h (List.prefix_append p s) with e | e
  · exact e
  · obtain ⟨u, hu⟩ := e
    obtain ⟨v, hv⟩ := h
    rw [← hu, List.append_assoc] at hv
    have hs2 := List.append_cancel_left hv
    cases u with
    | nil => rw [← hu]; simp
    | cons x u =>
      have hx := hs x (u ++ v) (by rw [← hs2]; rfl)
      obtain ⟨a, t, e, _, ht⟩ := enc_head_tail r
      rw [e] at hu
      cases p with
      | nil => exact absurd rfl hp
      | cons b p =>
        simp at hu
        have := ht x (by rw [← hu.2]; simp)
        rw [hx] at this; cases this

/-! ### the first rune -/

/-- what the program's DecodeRune gives -/
def dec1 (l : List Int) : Int × Nat :=
  if l = [] then (65533, 0)
  else ((Lib.decodeN l.length (l.getD 0 0).toNat (l.getD 1 0).toNat (l.getD 2 0).toNat (l.getD 3 0).toNat).1,
        (Lib.decodeN l.length (l.getD 0 0).toNat (l.getD 1 0).toNat (l.getD 2 0).toNat (l.getD 3 0).toNat).2)

theorem dec1_nil : dec1 [] = (65533, 0) := rfl

set_option maxRecDepth 100000 in
set_option maxHeartbeats 1000000 in
theorem decodeN_cases (n b0 b1 b2 b3 : Nat) :
    (Lib.decodeN n b0 b1 b2 b3 = (65533, 1)) ∨
    (b0 < 128 ∧ Lib.decodeN n b0 b1 b2 b3 = (b0, 1)) ∨
    (1 < n ∧ 128 ≤ b0 % 32 * 64 + b1 % 64 ∧ b0 / 32 = 6 ∧ b1 / 64 = 2 ∧ Lib.decodeN n b0 b1 b2 b3 = (b0 % 32 * 64 + b1 % 64, 2)) ∨
    (2 < n ∧ 2048 ≤ b0 % 16 * 4096 + b1 % 64 * 64 + b2 % 64 ∧ (b0 % 16 * 4096 + b1 % 64 * 64 + b2 % 64 < 55296 ∨ 57344 ≤ b0 % 16 * 4096 + b1 % 64 * 64 + b2 % 64) ∧ b0 / 16 = 14 ∧ b1 / 64 = 2 ∧ b2 / 64 = 2 ∧
      Lib.decodeN n b0 b1 b2 b3 = (b0 % 16 * 4096 + b1 % 64 * 64 + b2 % 64, 3)) ∨
    (3 < n ∧ 65536 ≤ b0 % 8 * 262144 + b1 % 64 * 4096 + b2 % 64 * 64 + b3 % 64 ∧ b0 % 8 * 262144 + b1 % 64 * 4096 + b2 % 64 * 64 + b3 % 64 ≤ 1114111 ∧ b0 / 8 = 30 ∧ b1 / 64 = 2 ∧ b2 / 64 = 2 ∧ b3 / 64 = 2 ∧
      Lib.decodeN n b0 b1 b2 b3 = (b0 % 8 * 262144 + b1 % 64 * 4096 + b2 % 64 * 64 + b3 % 64, 4)) := by
  unfold Lib.decodeN
  repeat' split
  all_goals first
    | exact .inl rfl
    | exact .inr (.inl ⟨by assumption, rfl⟩)
    | exact .inr (.inr (.inl ⟨by omega, by omega, by omega, by omega, rfl⟩))
    | exact .inr (.inr (.inr (.inl ⟨by omega, by omega, by omega, by omega, by omega, by omega, rfl⟩)))
    | exact .inr (.inr (.inr (.inr ⟨by omega, by omega, by omega, by omega, by omega, by omega, by omega, rfl⟩)))

theorem len2 {l : List Int} (h : 1 < l.length) : ∃ a b t, l = a :: b :: t := by
  match l with
  | [] => simp at h
  | [_] => simp at h
  | a :: b :: t => exact ⟨a, b, t, rfl⟩
theorem len3 {l : List Int} (h : 2 < l.length) : ∃ a b c t, l = a :: b :: c :: t := by
  match l with
  | [] => simp at h
  | [_] => simp at h
  | [_, _] => simp at h
  | a :: b :: c :: t => exact ⟨a, b, c, t, rfl⟩
theorem len4 {l : List Int} (h : 3 < l.length) : ∃ a b c d t, l = a :: b :: c :: d :: t := by
  match l with
  | [] => simp at h
  | [_] => simp at h
  | [_, _] => simp at h
  | [_, _, _] => simp at h
  | a :: b :: c :: d :: t => exact ⟨a, b, c, d, t, rfl⟩
theorem val2 {a b : Int} (_ha : 0 ≤ a ∧ a < 256) (hb : 0 ≤ b ∧ b < 256) (h1 : 128 ≤ a.toNat % 32 * 64 + b.toNat % 64) (h2 : a.toNat / 32 = 6) (h3 : b.toNat / 64 = 2) (v : Nat) (hv : v = a.toNat % 32 * 64 + b.toNat % 64) :
    good (v : Int) = true ∧ enc (v : Int) = [a, b] := by
  refine ⟨by rw [good_iff]; omega, ?_⟩
  rw [enc, Lib.encodeRuneZ_two (by omega) (by omega)]
  simp only [List.cons.injEq, and_true]
  omega
theorem val3 {a b c : Int} (_ha : 0 ≤ a ∧ a < 256) (hb : 0 ≤ b ∧ b < 256) (hc : 0 ≤ c ∧ c < 256) (v : Nat) (hv : v = a.toNat % 16 * 4096 + b.toNat % 64 * 64 + c.toNat % 64)
    (h1 : 2048 ≤ v) (h2 : v < 55296 ∨ 57344 ≤ v) (h3 : a.toNat / 16 = 14) (h4 : b.toNat / 64 = 2) (h5 : c.toNat / 64 = 2) :
    good (v : Int) = true ∧ enc (v : Int) = [a, b, c] := by
  refine ⟨by rw [good_iff]; omega, ?_⟩
  rw [enc, Lib.encodeRuneZ_three (by omega)]
  simp only [List.cons.injEq, and_true]
  omega
theorem val4 {a b c d : Int} (_ha : 0 ≤ a ∧ a < 256) (hb : 0 ≤ b ∧ b < 256) (hc : 0 ≤ c ∧ c < 256) (hd : 0 ≤ d ∧ d < 256) (v : Nat) (hv : v = a.toNat % 8 * 262144 + b.toNat % 64 * 4096 + c.toNat % 64 * 64 + d.toNat % 64)
    (h1 : 65536 ≤ v) (h2 : v ≤ 1114111) (h3 : a.toNat / 8 = 30) (h4 : b.toNat / 64 = 2) (h5 : c.toNat / 64 = 2) (h6 : d.toNat / 64 = 2) :
    good (v : Int) = true ∧ enc (v : Int) = [a, b, c, d] := by
  refine ⟨by rw [good_iff]; omega, ?_⟩
  rw [enc, Lib.encodeRuneZ_four (by omega) (by omega)]
  simp only [List.cons.injEq, and_true]
  omega

/-- the first rune is an error of one byte, or some encoding begins the bytes -/
theorem dec1_cases {l : List Int} (hb : Bytes l) (hne : l ≠ []) :
    dec1 l = (65533, 1) ∨ ∃ r, good r = true ∧ enc r <+: l ∧ dec1 l = (r, (enc r).length) := by
  unfold dec1
  rw [if_neg hne]
  rcases decodeN_cases l.length (l.getD 0 0).toNat (l.getD 1 0).toNat (l.getD 2 0).toNat (l.getD 3 0).toNat with h | ⟨h0, h⟩ | ⟨h0, h1, h2, h3, h⟩ | ⟨h0, h1, h2, h3, h4, h5, h⟩ | ⟨h0, h1, h2, h3, h4, h5, h6, h⟩
  · left; rw [h]; rfl
  · right; rw [h]; clear h
    obtain ⟨a, t, rfl⟩ := List.exists_cons_of_ne_nil hne
    have ha := hb a (by simp)
    simp only [List.getD_cons_zero] at h0 ⊢
    have e : enc (a.toNat : Int) = [a] := by
      rw [enc, Lib.encodeRuneZ_one (by omega) (by omega)]
      simp only [List.cons.injEq, and_true]; omega
    refine ⟨(a.toNat : Int), by rw [good_iff]; omega, ?_, ?_⟩
    · rw [e]; simp
    · rw [e]; rfl
  · right; rw [h]; clear h
    obtain ⟨a, b, t, rfl⟩ := len2 h0
    simp only [List.getD_cons_zero, List.getD_cons_succ] at h1 h2 h3 ⊢
    obtain ⟨hg, e⟩ := val2 (hb a (by simp)) (hb b (by simp)) h1 h2 h3 _ rfl
    refine ⟨_, hg, ?_, ?_⟩
    · rw [e]; simp
    · rw [e]; rfl
  · right; rw [h]; clear h
    obtain ⟨a, b, c, t, rfl⟩ := len3 h0
    simp only [List.getD_cons_zero, List.getD_cons_succ] at h1 h2 h3 h4 h5 ⊢
    obtain ⟨hg, e⟩ := val3 (hb a (by simp)) (hb b (by simp)) (hb c (by simp)) _ rfl h1 h2 h3 h4 h5
    refine ⟨_, hg, ?_, ?_⟩
    · rw [e]; simp
    · rw [e]; rfl
  · right; rw [h]; clear h
    obtain ⟨a, b, c, d, t, rfl⟩ := len4 h0
    simp only [List.getD_cons_zero, List.getD_cons_succ] at h1 h2 h3 h4 h5 h6 ⊢
    obtain ⟨hg, e⟩ := val4 (hb a (by simp)) (hb b (by simp)) (hb c (by simp)) (hb d (by simp)) _ rfl h1 h2 h3 h4 h5 h6
    refine ⟨_, hg, ?_, ?_⟩
    · rw [e]; simp
    · rw [e]; rfl

set_option maxHeartbeats 2000000 in
/-- where an encoding begins the bytes, it is what is decoded -/
theorem dec1_enc {r : Int} {l : List Int} (hg : good r = true) (h : enc r <+: l) : dec1 l = (r, (enc r).length) := by
  obtain ⟨t, rfl⟩ := h
  unfold dec1
  rcases enc_forms hg with ⟨_, _, e⟩ | ⟨_, _, e⟩ | ⟨_, _, _, e⟩ | ⟨_, _, e⟩ <;> rw [e] <;>
    simp only [List.cons_append, List.nil_append, reduceCtorEq, if_false, List.getD_cons_zero, List.getD_cons_succ, List.length_cons, List.length_nil]
  · unfold Lib.decodeN
    rw [if_pos (by omega)]
    simp only [Prod.mk.injEq, and_true]; omega
  · unfold Lib.decodeN
    rw [if_neg (by omega), if_pos (by omega), if_pos (by omega)]
    simp only [Prod.mk.injEq, and_true]; omega
  · unfold Lib.decodeN
    rw [if_neg (by omega), if_neg (by omega), if_pos (by omega), if_pos (by omega)]
    simp only [Prod.mk.injEq, and_true]; omega
  · unfold Lib.decodeN
    rw [if_neg (by omega), if_neg (by omega), if_neg (by omega), if_pos (by omega), if_pos (by omega)]
    simp only [Prod.mk.injEq, and_true]; omega

theorem dec1_none {l : List Int} (hb : Bytes l) (hne : l ≠ []) (h : ∀ r, good r = true → ¬ enc r <+: l) : dec1 l = (65533, 1) := by
  rcases dec1_cases hb hne with e | ⟨r, hg, hp, _⟩
  · exact e
  · exact absurd hp (h r hg)

theorem dec1_app (r : Int) (t : List Int) : dec1 (enc r ++ t) = (fix r, (enc r).length) := by
  rw [← enc_fix r]
  exact dec1_enc (fix_good r) (List.prefix_append _ _)

/-- an error of one byte is no encoding -/
theorem dec1_err {l : List Int} (h : dec1 l = (65533, 1)) (r : Int) (hg : good r = true) : ¬ enc r <+: l := fun hp => by
  have e := dec1_enc hg hp
  rw [h] at e
  simp only [Prod.mk.injEq] at e
  obtain ⟨rfl, e2⟩ := e
  exact absurd e2 (by decide)

theorem dec1_size {l : List Int} (hb : Bytes l) (hne : l ≠ []) : 1 ≤ (dec1 l).2 ∧ (dec1 l).2 ≤ 4 ∧ (dec1 l).2 ≤ l.length := by
  rcases dec1_cases hb hne with e | ⟨r, _, hp, e⟩
  · rw [e]; have := List.length_pos_iff.2 hne; simp; omega
  · rw [e]; have := enc_len r; have := hp.length_le; simp only; omega

theorem dec1_pos (l : List Int) (hne : l ≠ []) : 1 ≤ (dec1 l).2 := by
  unfold dec1
  rw [if_neg hne]
  rcases decodeN_cases l.length (l.getD 0 0).toNat (l.getD 1 0).toNat (l.getD 2 0).toNat (l.getD 3 0).toNat with h | ⟨_, h⟩ | ⟨_, _, _, _, h⟩ | ⟨_, _, _, _, _, _, h⟩ | ⟨_, _, _, _, _, _, _, h⟩ <;> rw [h] <;> simp

theorem Bytes.nil : Bytes [] := fun _ h => by cases h
theorem Bytes.app {p s : List Int} (hp : Bytes p) (hs : Bytes s) : Bytes (p ++ s) := fun x hx => (List.mem_append.1 hx).elim (hp x) (hs x)
theorem Bytes.left {p s : List Int} (h : Bytes (p ++ s)) : Bytes p := fun x hx => h x (List.mem_append_left _ hx)
theorem Bytes.right {p s : List Int} (h : Bytes (p ++ s)) : Bytes s := fun x hx => h x (List.mem_append_right _ hx)
theorem Bytes.take {l : List Int} (h : Bytes l) (n : Nat) : Bytes (l.take n) := fun x hx => h x (List.mem_of_mem_take hx)
theorem Bytes.drop {l : List Int} (h : Bytes l) (n : Nat) : Bytes (l.drop n) := fun x hx => h x (List.mem_of_mem_drop hx)
theorem encs_bytes (rs : List Int) : Bytes (encs rs) := fun x hx => by
  obtain ⟨r, _, hr⟩ := List.mem_flatMap.1 hx
  exact enc_bytes r x hr
theorem encs_nil : encs [] = [] := rfl
theorem encs_cons (r : Int) (rs : List Int) : encs (r :: rs) = enc r ++ encs rs := by simp [encs]
theorem encs_append (a b : List Int) : encs (a ++ b) = encs a ++ encs b := by simp [encs]

/-- the head of what does not continue -/
def Starts (s : List Int) : Prop := ∀ x t, s = x :: t → isC x = false
theorem starts_nil : Starts [] := fun _ _ h => by cases h
theorem starts_enc (r : Int) (t : List Int) : Starts (enc r ++ t) := fun x u h => by
  obtain ⟨a, b, e, ha, _⟩ := enc_head_tail r
  rw [e] at h
  simp only [List.cons_append, List.cons.injEq] at h
  rw [← h.1]; exact ha
theorem starts_encs (rs : List Int) : Starts (encs rs) := by
  cases rs with
  | nil => exact starts_nil
  | cons r rs => rw [encs_cons]; exact starts_enc r _

theorem dec1_append {p s : List Int} (hp : Bytes p) (hs : Bytes s) (hne : p ≠ []) (h : Starts s) : dec1 (p ++ s) = dec1 p := by
  rcases dec1_cases (hp.app hs) (by simp [hne]) with e | ⟨r, hg, hr, e⟩
  · rcases dec1_cases hp hne with f | ⟨r, hg, hr, _⟩
    · rw [e, f]
    · exact absurd (hr.trans (List.prefix_append p s)) (dec1_err e r hg)
  · rw [e, dec1_enc hg (enc_over hne hr h)]

/-! ### all runes -/

def decsF : Nat → List Int → List (Int × Nat)
  | 0, _ => []
  | f + 1, l => if l = [] then [] else dec1 l :: decsF f (l.drop (dec1 l).2)
/-- all runes of some bytes with their sizes -/
def decs (l : List Int) : List (Int × Nat) := decsF l.length l

theorem decsF_more : ∀ (f g : Nat) (l : List Int), l.length ≤ f → l.length ≤ g → decsF f l = decsF g l
  | 0, 0, _, _, _ => rfl
  | 0, g + 1, l, h, _ => by
    have : l = [] := List.eq_nil_of_length_eq_zero (by omega)
    simp [decsF, this]
  | f + 1, 0, l, _, h => by
    have : l = [] := List.eq_nil_of_length_eq_zero (by omega)
    simp [decsF, this]
  | f + 1, g + 1, l, h, k => by
    unfold decsF
    split
    · rfl
    · rename_i hne
      have := dec1_pos l hne
      rw [decsF_more f g _ (by simp; omega) (by simp; omega)]

theorem decs_nil : decs [] = [] := rfl
theorem decs_step {l : List Int} (hne : l ≠ []) : decs l = dec1 l :: decs (l.drop (dec1 l).2) := by
  unfold decs
  have hl := List.length_pos_iff.2 hne
  have hp := dec1_pos l hne
  obtain ⟨n, hn⟩ : ∃ n, l.length = n + 1 := ⟨l.length - 1, by omega⟩
  rw [hn]
  show (if l = [] then [] else _) = _
  rw [if_neg hne]
  rw [decsF_more n _ (l.drop (dec1 l).2) (by simp; omega) (Nat.le_refl _)]

theorem decs_enc (r : Int) (t : List Int) : decs (enc r ++ t) = (fix r, (enc r).length) :: decs t := by
  rw [decs_step (by simp [enc_ne]), dec1_app]
  simp
theorem decs_encs (rs : List Int) (t : List Int) : decs (encs rs ++ t) = rs.map (fun r => (fix r, (enc r).length)) ++ decs t := by
  induction rs with
  | nil => rfl
  | cons r rs ih => rw [encs_cons, List.append_assoc, decs_enc, ih]; rfl
theorem decs_encs' (rs : List Int) : decs (encs rs) = rs.map (fun r => (fix r, (enc r).length)) := by
  have := decs_encs rs []
  simpa [decs_nil] using this

/-- two parts, the second of which does not continue the first, are decoded by themselves -/
theorem decs_append : ∀ (n : Nat) {p s : List Int}, p.length ≤ n → Bytes p → Bytes s → Starts s → decs (p ++ s) = decs p ++ decs s
  | 0, p, s, hn, _, _, _ => by
    have : p = [] := List.eq_nil_of_length_eq_zero (by omega)
    subst this; rfl
  | n + 1, p, s, hn, hp, hs, h => by
    by_cases hne : p = []
    · subst hne; rfl
    · obtain ⟨h1, _, h2⟩ := dec1_size hp hne
      rw [decs_step (l := p ++ s) (by simp [hne]), decs_step hne, dec1_append hp hs hne h, List.drop_append_of_le_length h2,
        decs_append n (by simp; omega) (hp.drop _) hs h]
      rfl

theorem decs_split {p s : List Int} (hp : Bytes p) (hs : Bytes s) (h : Starts s) : decs (p ++ s) = decs p ++ decs s := decs_append _ (Nat.le_refl _) hp hs h

/-- how many runes: at most as many as bytes, at least one if there is one -/
theorem decs_length_le : ∀ (n : Nat) (l : List Int), l.length ≤ n → (decs l).length ≤ l.length
  | 0, l, h => by
    have : l = [] := List.eq_nil_of_length_eq_zero (by omega)
    subst this; simp [decs_nil]
  | n + 1, l, h => by
    by_cases hne : l = []
    · subst hne; simp [decs_nil]
    · have hl := List.length_pos_iff.2 hne
      have hp := dec1_pos l hne
      have ih := decs_length_le n (l.drop (dec1 l).2) (by simp; omega)
      rw [decs_step hne]
      simp only [List.length_cons, List.length_drop] at ih ⊢
      omega
theorem decs_le (l : List Int) : (decs l).length ≤ l.length := decs_length_le _ l (Nat.le_refl _)
theorem decs_pos {l : List Int} (h : l ≠ []) : 1 ≤ (decs l).length := by rw [decs_step h]; simp

/-- the sizes are those of the bytes -/
theorem decs_sum : ∀ (n : Nat) (l : List Int), l.length ≤ n → Bytes l → ((decs l).map (·.2)).sum = l.length
  | 0, l, h, _ => by
    have : l = [] := List.eq_nil_of_length_eq_zero (by omega)
    subst this; simp [decs_nil]
  | n + 1, l, h, hb => by
    by_cases hne : l = []
    · subst hne; simp [decs_nil]
    · obtain ⟨h1, _, h2⟩ := dec1_size hb hne
      have ih := decs_sum n (l.drop (dec1 l).2) (by simp; omega) (hb.drop _)
      rw [decs_step hne]
      simp only [List.map_cons, List.sum_cons, List.length_drop] at ih ⊢
      omega

end Go.Proofs.Ytlbdhfpakajdaaa.P
