/- Plain theory: texts of which a byte is cut, lost, put in or changed. -/
import Derived.Test.YtcbfbccmghdpgaaDoorDoor
set_option linter.unusedVariables false
namespace Go.Proofs.YtcbfbccmghdpgaaDoor
open P

theorem enc16_fffd : enc16 65533 = [65533] := by decide
theorem encs16_rep (n : Nat) : encs16 (List.replicate n 65533) = List.replicate n 65533 := by
  induction n with
  | zero => rfl
  | succ n ih => rw [List.replicate_succ, encs16_cons, enc16_fffd, ih]; rfl

theorem decs_part {r : Int} {p : Nat} (hg : good r = true) (h0 : 0 < p) (h1 : p < (enc r).length) : decs ((enc r).take p) = List.replicate p (65533, 1) := by
  obtain ⟨h, t, e, hh, ht⟩ := enc_head_tail r
  have hb := enc_bytes r
  obtain ⟨q, rfl⟩ : ∃ q, p = q + 1 := ⟨p - 1, by omega⟩
  have hd : dec1 ((enc r).take (q + 1)) = (65533, 1) := by
    refine dec1_none (hb.take _) (by rw [e]; simp) fun s hs hp => ?_
    have h2 : enc s <+: enc r := hp.trans (List.take_prefix _ _)
    have h3 := enc_prefix hs hg h2
    subst h3
    have := hp.length_le
    rw [List.length_take] at this; omega
  have e3 : ((enc r).take (q + 1)).drop 1 = t.take q := by rw [e]; simp
  have h4 : decs (t.take q ++ []) = List.replicate (t.take q).length (65533, 1) ++ decs [] := by
    refine decs_cont ?_ fun x hx => ht x (List.mem_of_mem_take hx)
    rw [List.append_nil, ← e3]
    exact (hb.take _).drop _
  rw [List.append_nil, decs_nil, List.append_nil] at h4
  rw [decs_step (by rw [e]; simp), hd]
  show _ :: decs (((enc r).take (q + 1)).drop 1) = _
  rw [e3, h4, List.length_take]
  rw [e, List.length_cons] at h1
  rw [Nat.min_eq_left (by omega), List.replicate_succ]

theorem place_of : ∀ (g : List Int) (at_ : Nat), at_ ≤ (encs g).length → ∃ i, i ≤ g.length ∧ ((encs (g.take i)).length = at_ ∨ ∃ r, g[i]? = some r ∧ (encs (g.take i)).length < at_ ∧ at_ < (encs (g.take i)).length + (enc r).length)
  | [], at_, h => ⟨0, by simp, .inl (by simp [encs_nil] at h ⊢; omega)⟩
  | r :: g, at_, h => by
    rw [encs_cons, List.length_append] at h
    by_cases h0 : at_ < (enc r).length
    · refine ⟨0, by omega, ?_⟩
      by_cases h1 : at_ = 0
      · left; simp [encs_nil, h1]
      · right; exact ⟨r, rfl, by simp [encs_nil]; omega, by simp [encs_nil]; omega⟩
    · obtain ⟨i, hi, hh⟩ := place_of g (at_ - (enc r).length) (by omega)
      refine ⟨i + 1, by simp; omega, ?_⟩
      rw [List.take_succ_cons, encs_cons, List.length_append]
      rcases hh with e | ⟨s, hs, a, b⟩
      · left; omega
      · right; exact ⟨s, by simpa using hs, by omega, by omega⟩

theorem encs_take_drop (g : List Int) (i : Nat) : encs g = encs (g.take i) ++ encs (g.drop i) := by
  rw [← encs_append, List.take_append_drop]
theorem runes8_encs_app (g t : List Int) : runes8 (encs g ++ t) = g.map fix ++ runes8 t := by
  unfold runes8; rw [decs_encs, List.map_append, List.map_map]; rfl
theorem runes8_mid {a b m : List Int} (ha : ∀ r ∈ a, good r = true) (hb : ∀ r ∈ b, good r = true) (hm : Bytes m) : runes8 (encs a ++ (m ++ encs b)) = a ++ (runes8 m ++ b) := by
  rw [runes8_encs_app, runes8_app hm (encs_bytes b) (starts_encs b), runes8_encs hb, map_fix_good ha]

/-- FnByteCuts, where the cut goes through a rune -/
theorem byteCut_mid {g b : List Int} {at_ : Nat} {x : Int} (hg : ∀ r ∈ g, good r = true) (hb : b = encs g) (hx : b[at_]? = some x) (hc : isC x = true) :
    ∃ fr to_ : Nat, fr < at_ ∧ at_ < to_ ∧ to_ ≤ b.length ∧ (∃ y, b[fr]? = some y ∧ isC y = false) ∧ (∀ j y, fr < j → j < to_ → b[j]? = some y → isC y = true) ∧ (∀ y, b[to_]? = some y → isC y = false) ∧
      encs16 (runes8 (b.take at_)) ++ encs16 (runes8 (b.drop at_)) = encs16 (runes8 (b.take fr)) ++ List.replicate (to_ - fr) 65533 ++ encs16 (runes8 (b.drop to_)) := by
  have hlt := (List.getElem?_eq_some_iff.1 hx).1
  obtain ⟨i, hi, hh⟩ := place_of g at_ (by rw [← hb]; omega)
  rcases hh with e | ⟨r, hr, h1, h2⟩
  · exfalso
    have h1 : b.drop at_ = encs (g.drop i) := by rw [hb, ← e, encs_take_drop g i]; simp
    have hd := drop_cons_at hx
    rw [h1] at hd
    have := starts_encs (g.drop i) x _ hd
    rw [hc] at this; cases this
  · have hsp : b = encs (g.take i) ++ (enc r ++ encs (g.drop (i + 1))) := by rw [hb]; exact encs_split hr
    have hgr := hg r (List.mem_of_getElem? hr)
    have hS := starts_encs (g.drop (i + 1))
    have hbS := encs_bytes (g.drop (i + 1))
    have hbE := enc_bytes r
    generalize hP : encs (g.take i) = P at *
    generalize encs (g.drop (i + 1)) = S at *
    obtain ⟨h, t, e, hh, ht⟩ := enc_head_tail r
    have hlen : b.length = P.length + ((enc r).length + S.length) := by rw [hsp]; simp
    refine ⟨P.length, P.length + (enc r).length, h1, h2, by omega, ⟨h, ?_, hh⟩, fun j y a1 a2 hy => ?_, fun y hy => ?_, ?_⟩
    · rw [hsp, List.getElem?_append_right (Nat.le_refl _), Nat.sub_self, e]; rfl
    · rw [hsp, List.getElem?_append_right (by omega), List.getElem?_append_left (by omega), e] at hy
      obtain ⟨m, hm⟩ : ∃ m, j - P.length = m + 1 := ⟨j - P.length - 1, by omega⟩
      rw [hm, List.getElem?_cons_succ] at hy
      exact ht y (List.mem_of_getElem? hy)
    · rw [hsp, List.getElem?_append_right (by omega), List.getElem?_append_right (by omega)] at hy
      rw [show P.length + (enc r).length - P.length - (enc r).length = 0 by omega] at hy
      cases S with
      | nil => simp at hy
      | cons s S => simp at hy; subst hy; exact hS _ _ rfl
    · obtain ⟨p, rfl⟩ : ∃ p, at_ = P.length + p := ⟨at_ - P.length, by omega⟩
      have t1 : b.take (P.length + p) = P ++ (enc r).take p := by
        rw [hsp, List.take_append, List.take_append]
        rw [List.take_of_length_le (by omega), show P.length + p - P.length = p by omega, show p - (enc r).length = 0 by omega]; simp
      have t2 : b.drop (P.length + p) = (enc r).drop p ++ S := by
        rw [hsp, List.drop_append, List.drop_append]
        rw [List.drop_eq_nil_of_le (by omega), show P.length + p - P.length = p by omega, show p - (enc r).length = 0 by omega]; simp
      have t3 : b.take P.length = P := by rw [hsp]; simp
      have t4 : b.drop (P.length + (enc r).length) = S := by
        rw [hsp, ← List.append_assoc, List.drop_append, List.drop_eq_nil_of_le (by simp)]; simp
      have d1 := decs_part hgr (by omega : 0 < p) (by omega)
      have d2 : decs ((enc r).drop p ++ S) = List.replicate ((enc r).length - p) (65533, 1) ++ decs S := by
        rw [decs_cont ((hbE.drop _).app hbS) ?_, List.length_drop]
        obtain ⟨k, rfl⟩ : ∃ k, p = k + 1 := ⟨p - 1, by omega⟩
        rw [e]
        intro x hx
        exact ht x (List.mem_of_mem_drop (by simpa using hx))
      have r1 : runes8 (P ++ (enc r).take p) = (g.take i).map fix ++ List.replicate p 65533 := by
        rw [← hP, runes8_encs_app]; congr 1; unfold runes8; rw [d1]; simp
      have r2 : runes8 ((enc r).drop p ++ S) = List.replicate ((enc r).length - p) 65533 ++ runes8 S := by
        unfold runes8; rw [d2]; simp
      have r3 : runes8 P = (g.take i).map fix := by rw [← hP]; exact runes8_fix _
      rw [t1, t2, t3, t4, r1, r2, r3, encs16_append, encs16_append, encs16_rep, encs16_rep]
      rw [show P.length + (enc r).length - P.length = p + ((enc r).length - p) by omega, ← List.replicate_append_replicate]
      simp only [List.append_assoc]
/-- FnByteCuts, where the cut goes through no rune -/
theorem byteCut_none {g b : List Int} {at_ : Nat} (hg : ∀ r ∈ g, good r = true) (hb : b = encs g) (h : ∀ x, b[at_]? = some x → isC x = false) :
    encs16 (runes8 (b.take at_)) ++ encs16 (runes8 (b.drop at_)) = encs16 g := by
  have hby : Bytes b := by rw [hb]; exact encs_bytes g
  rw [← encs16_append, ← runes8_app (hby.take _) (hby.drop _) ?_, List.take_append_drop, hb, runes8_encs hg]
  intro x t hx
  refine h x ?_
  have : (b.drop at_)[0]? = some x := by rw [hx]; rfl
  rw [List.getElem?_drop] at this
  simpa using this
end Go.Proofs.YtcbfbccmghdpgaaDoor
