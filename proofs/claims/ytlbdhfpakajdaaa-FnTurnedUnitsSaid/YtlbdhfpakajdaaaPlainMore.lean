/- Plain theory: both encodings tell the same. No program in it. -/
import Derived.Test.YtlbdhfpakajdaaaPlain16
import Derived.Test.YtlbdhfpakajdaaaPlainLast
set_option linter.unusedVariables false
namespace Go.Proofs.Ytlbdhfpakajdaaa.P

theorem encs_map_fix (a : List Int) : encs (a.map fix) = encs a := by
  induction a with
  | nil => rfl
  | cons r a ih => rw [List.map_cons, encs_cons, encs_cons, enc_fix, ih]
theorem encs16_map_fix (a : List Int) : encs16 (a.map fix) = encs16 a := by
  induction a with
  | nil => rfl
  | cons r a ih => rw [List.map_cons, encs16_cons, encs16_cons, enc16_fix, ih]
theorem encs_eq_iff (a b : List Int) : encs a = encs b ↔ a.map fix = b.map fix := by
  constructor
  · intro h
    have h2 := congrArg decs h
    rw [decs_encs', decs_encs'] at h2
    have h3 := congrArg (List.map Prod.fst) h2
    simpa [List.map_map, Function.comp_def] using h3
  · intro h
    rw [← encs_map_fix a, ← encs_map_fix b, h]
theorem encs16_eq_iff (a b : List Int) : encs16 a = encs16 b ↔ a.map fix = b.map fix := by
  constructor
  · intro h
    have h2 := congrArg dec16 h
    rwa [dec16_encs16', dec16_encs16'] at h2
  · intro h
    rw [← encs16_map_fix a, ← encs16_map_fix b, h]
theorem encs16_len (rs : List Int) : rs.length ≤ (encs16 rs).length ∧ (encs16 rs).length ≤ 2 * rs.length := by
  induction rs with
  | nil => simp [encs16_nil]
  | cons r rs ih => rw [encs16_cons]; have := enc16_len r; simp; omega
end Go.Proofs.Ytlbdhfpakajdaaa.P
