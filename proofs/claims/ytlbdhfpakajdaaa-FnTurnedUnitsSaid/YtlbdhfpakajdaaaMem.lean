/- Words for memory: a slice of integers that reads as a list; a slice that the call has made. -/
import Derived.Test.YtlbdhfpakajdaaaProg
import Derived.WalkKit
import Derived.WalkLawsBesides
import Derived.Outline
import Derived.Lib.Hide
import Derived.Deep.QuietTactic
import Derived.BigQuiet
import Derived.KernelRfl
set_option linter.unusedVariables false
namespace Go.Proofs.Ytlbdhfpakajdaaa
open Go.RowKit

/-- the slice at 'A' with as many integers of kind k as the list has reads as the list in w -/
def Rd (w : World) (k : IntKind) (A : Option Addr) (xs : List Int) : Prop :=
  0 < xs.length → ∃ b off, A = some ⟨b, off, none⟩ ∧ b < w.heap.size ∧ ∀ j x, xs[j]? = some x → w.cell? ⟨b, off + j, none⟩ = some (.int k x)

section
variable {w w' : World} {k : IntKind} {A : Option Addr} {xs : List Int}
theorem Rd.nil (w : World) (k : IntKind) (A : Option Addr) : Rd w k A [] := fun h => absurd h (by simp)
theorem Rd.at_ {i : Nat} (h : Rd w k A xs) (hi : i < xs.length) : ∃ b off x, A = some ⟨b, off, none⟩ ∧ b < w.heap.size ∧ xs[i]? = some x ∧ w.cell? ⟨b, off + i, none⟩ = some (.int k x) := by
  obtain ⟨b, off, e, hb, hc⟩ := h (by omega)
  exact ⟨b, off, xs[i], e, hb, List.getElem?_eq_getElem hi, hc i _ (List.getElem?_eq_getElem hi)⟩
theorem Rd.next (h : Rd w k A xs) (hb : Below w.heap.size w w') : Rd w' k A xs := fun hn => by
  obtain ⟨b, off, e, hlt, hc⟩ := h hn
  exact ⟨b, off, e, Nat.lt_of_lt_of_le hlt hb.size, fun j x hx => (hb.cell (p := ⟨b, off + j, none⟩) hlt).trans (hc j x hx)⟩
theorem Rd.next' {B : Nat} (h : Rd w k A xs) (hb : Below B w w') (hB : w.heap.size ≤ B) : Rd w' k A xs := h.next (hb.mono hB)
theorem Rd.drewN (h : Rd w k A xs) (n : Nat) : Rd (w.drewN n) k A xs := h
theorem Rd.drew (h : Rd w k A xs) : Rd w.drew k A xs := h
theorem Rd.alloc (h : Rd w k A xs) (o : Obj) : Rd (w.alloc o) k A xs := h.next ((Below.refl _ _).alloc (Nat.le_refl _) o)
end

theorem bdrewN {B : Nat} {a w : World} (h : Below B a w) (n : Nat) : Below B a (w.drewN n) := ⟨h.os, h.tape, h.output, h.size, h.block⟩
theorem bnext {a w w' : World} (h : Below a.heap.size a w) (k : Below w.heap.size w w') : Below a.heap.size a w' := h.trans (k.mono h.size)

/-- the slice value is the call's own, from block 'base' on, and holds the list -/
def Own (w : World) (base : Nat) (e : TypeId) (k : IntKind) (v : Value) (xs : List Int) : Prop := w.ownsRow base e 1 v xs.length (xs.map (Value.int k))
end Go.Proofs.Ytlbdhfpakajdaaa
