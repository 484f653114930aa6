/- Parts of slices, and the comparisons at lengths that are spelt otherwise. -/
import Derived.Test.YtlbdhfpakajdaaaReaders
set_option linter.unusedVariables false
namespace Go.Proofs.Ytlbdhfpakajdaaa
open Go.RowKit P

/-- where a part of a slice begins -/
def cutA (A : Option Addr) (cap lo : Nat) : Option Addr := if cap = lo then A else A.map (·.add lo)

theorem run_cut {P : Program} {w : World} (t e : TypeId) (ht : P.underlying t = some (.slice e)) (i : TypeInfo) (hi : P.info? e = some i) (hs : i.size = 1) (A : Option Addr) (len cap lo hi' : Nat) (h1 : lo ≤ hi') (h2 : hi' ≤ cap) :
    (Instr.slice t (.slice A len cap) (some (.int .i64 (lo : Int))) (some (.int .i64 (hi' : Int))) none).run P w = .ok (.slice (cutA A cap lo) (hi' - lo) (cap - lo)) w := by
  have hel : P.elem t = e := by simp [Program.elem, ht]
  have hr := run_slice_lh (P := P) (w := w) t A len cap (by rw [hel]; exact ht) .i64 .i64 (lo : Int) (hi' : Int) (by omega) (by omega) (by omega)
  rw [hr, hel]
  simp [sizeOf, typeInfo, hi, hs, sliced, cutA]

section
variable {w : World} {k : IntKind} {A : Option Addr} {xs : List Int}
theorem Rd.drop (h : Rd w k A xs) (cap lo : Nat) (hc : xs.length ≤ cap) : Rd w k (cutA A cap lo) (xs.drop lo) := fun hn => by
  rw [List.length_drop] at hn
  obtain ⟨b, off, rfl, hb, hcell⟩ := h (by omega)
  unfold cutA
  rw [if_neg (by omega)]
  refine ⟨b, off + lo, by simp only [Option.map_some, Option.some.injEq]; unfold Addr.add; split <;> simp_all, hb, fun j x hx => ?_⟩
  rw [List.getElem?_drop] at hx
  rw [Nat.add_assoc]
  exact hcell _ x hx
theorem Rd.take (h : Rd w k A xs) (n : Nat) : Rd w k A (xs.take n) := fun hn => by
  rw [List.length_take] at hn
  obtain ⟨b, off, rfl, hb, hcell⟩ := h (by omega)
  refine ⟨b, off, rfl, hb, fun j x hx => ?_⟩
  rw [List.getElem?_take] at hx
  split at hx
  · exact hcell j x hx
  · cases hx
end
theorem sameRunes_n {A A' : Option Addr} {xs ys : List Int} {c c' n m : Nat} {w : World} (hx : Rd w .i32 A xs) (hy : Rd w .i32 A' ys) (hn : xs.length = n) (hm : ys.length = m) (hl : n ≤ 1000000000000000) :
    Calls Try.prog 17 #[.slice A n c, .slice A' m c'] w fun e w' => e = .returned (.bool (decide (xs = ys))) ∧ ∃ n, w' = w.drewN n := by
  subst hn hm; exact sameRunes_any hx hy hl
theorem sameBytes_n {A A' : Option Addr} {xs ys : List Int} {c c' n m : Nat} {w : World} (hx : Rd w .u8 A xs) (hy : Rd w .u8 A' ys) (hn : xs.length = n) (hm : ys.length = m) (hl : n ≤ 1000000000000000) :
    Calls Try.prog 9 #[.slice A n c, .slice A' m c'] w fun e w' => e = .returned (.bool (decide (xs = ys))) ∧ ∃ n, w' = w.drewN n := by
  subst hn hm; exact sameBytes_any hx hy hl
end Go.Proofs.Ytlbdhfpakajdaaa
