/- Decoding that begins anywhere. -/
import Derived.Test.YtbjigbhjnmcdgaaDoorPlainMore
set_option linter.unusedVariables false
namespace Go.Proofs.YtbjigbhjnmcdgaaDoor.P

theorem dec1_cont {x : Int} {t : List Int} (hb : Bytes (x :: t)) (hx : isC x = true) : dec1 (x :: t) = (65533, 1) := by
  refine dec1_none hb (by simp) fun r hg hp => ?_
  obtain ⟨h, u, he, hh, _⟩ := enc_head_tail r
  rw [he] at hp
  obtain ⟨v, hv⟩ := hp
  simp only [List.cons_append, List.cons.injEq] at hv
  rw [hv.1, hx] at hh
  cases hh
theorem decs_cont : ∀ {xs t : List Int}, Bytes (xs ++ t) → (∀ x ∈ xs, isC x = true) → decs (xs ++ t) = List.replicate xs.length (65533, 1) ++ decs t
  | [], t, _, _ => by simp
  | x :: xs, t, hb, hx => by
    have h1 := dec1_cont (t := xs ++ t) hb (hx x (by simp))
    rw [List.cons_append, decs_step (by simp), h1]
    show _ :: decs (xs ++ t) = _
    rw [decs_cont (fun y hy => hb y (List.mem_cons_of_mem _ hy)) fun y hy => hx y (by simp [hy])]
    simp [List.replicate_succ]

/-- the places where decoding stands, from a on -/
def stops : Nat → List (Int × Nat) → List Nat
  | a, [] => [a]
  | a, d :: ds => a :: stops (a + d.2) ds
theorem stops_ge : ∀ (ds : List (Int × Nat)) (a x : Nat), x ∈ stops a ds → a ≤ x
  | [], a, x, h => by simp [stops] at h; omega
  | d :: ds, a, x, h => by
    rcases List.mem_cons.1 h with e | e
    · omega
    · have := stops_ge ds _ _ e; omega
theorem from_any : ∀ (n : Nat) (l : List Int) (a at_ : Nat), l.length ≤ n → Bytes l → at_ ≤ l.length →
    ∃ lost i : Nat, lost ≤ 3 ∧ at_ + lost ≤ l.length ∧ (stops a (decs l))[i]? = some (a + at_ + lost) ∧ (∀ j, j < lost → a + at_ + j ∉ stops a (decs l)) ∧
      decs (l.drop at_) = List.replicate lost (65533, 1) ++ (decs l).drop i
  | 0, l, a, at_, hn, hb, h => by
    obtain rfl := List.eq_nil_of_length_eq_zero (Nat.le_zero.1 hn)
    obtain rfl : at_ = 0 := by simpa using h
    exact ⟨0, 0, by omega, by simp, by simp [decs_nil, stops], fun j hj => by omega, by simp⟩
  | n + 1, l, a, at_, hn, hb, h => by
    by_cases h0 : at_ = 0
    · subst h0
      refine ⟨0, 0, by omega, by simp, ?_, fun j hj => by omega, by simp⟩
      cases hd : decs l <;> simp [stops]
    have hne : l ≠ [] := fun e => by subst e; simp at h; omega
    obtain ⟨s1, s2, s3⟩ := dec1_size hb hne
    have hst := decs_step hne
    by_cases hge : (dec1 l).2 ≤ at_
    · obtain ⟨lost, i, q1, q2, q3, q4, q5⟩ := from_any n (l.drop (dec1 l).2) (a + (dec1 l).2) (at_ - (dec1 l).2) (by simp; omega) (hb.drop _) (by simp; omega)
      rw [List.length_drop] at q2
      refine ⟨lost, i + 1, q1, by omega, ?_, fun j hj => ?_, ?_⟩
      · rw [hst]; show (stops (a + (dec1 l).2) _)[i]? = _
        rw [q3]; congr 1; omega
      · rw [hst]
        intro hm
        rcases List.mem_cons.1 hm with e | e
        · omega
        · exact q4 j hj (by rw [show a + (dec1 l).2 + (at_ - (dec1 l).2) + j = a + at_ + j by omega]; exact e)
      · rw [hst, List.drop_succ_cons, ← q5, List.drop_drop]; congr 2; omega
    · rcases dec1_cases hb hne with hd | ⟨r, hg, hp, hd⟩
      · rw [hd] at hge; exfalso; simp at hge; omega
      · obtain ⟨t, ht⟩ := hp
        have hn2 : (dec1 l).2 = (enc r).length := by rw [hd]
        have hcut : l.drop at_ = (enc r).drop at_ ++ t := by rw [← ht, List.drop_append_of_le_length (by omega)]
        have hdr : l.drop (dec1 l).2 = t := by rw [hn2, ← ht]; simp
        refine ⟨(dec1 l).2 - at_, 1, by omega, by omega, ?_, fun j hj => ?_, ?_⟩
        · rw [hst]; show (stops (a + (dec1 l).2) _)[0]? = _
          cases decs (l.drop (dec1 l).2) <;> simp [stops] <;> omega
        · rw [hst]
          intro hm
          rcases List.mem_cons.1 hm with e | e
          · omega
          · have := stops_ge _ _ _ e; omega
        · rw [hst, List.drop_succ_cons, List.drop_zero, hdr, hcut, decs_cont (by rw [← hcut]; exact hb.drop _) ?_, List.length_drop, hn2]
          obtain ⟨h', u, he, _, hu⟩ := enc_head_tail r
          rw [he]
          obtain ⟨k, rfl⟩ : ∃ k, at_ = k + 1 := ⟨at_ - 1, by omega⟩
          intro x hx
          exact hu x (List.mem_of_mem_drop (by simpa using hx))
end Go.Proofs.YtbjigbhjnmcdgaaDoor.P
