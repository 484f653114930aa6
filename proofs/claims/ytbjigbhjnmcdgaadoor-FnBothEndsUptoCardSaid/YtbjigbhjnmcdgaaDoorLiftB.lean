/- From a reading of an argument that is a slice of booleans to the words of the walks. -/
import Derived.Test.YtbjigbhjnmcdgaaDoorLift
import Derived.Test.YtbjigbhjnmcdgaaDoorAppB
import Derived.Deep.Grids
set_option linter.unusedVariables false
namespace Go.Proofs.YtbjigbhjnmcdgaaDoor
open Go.ChangeShapes Go.WideShapes Go.ChangeAt Go.RowKit

theorem open_rowB {H : Type} {enc : TypeId × Value → H} {P : Program} {W : World} {t e : TypeId} {a : Option Addr} {len cap : Nat} {d : DataW H} {p : List MemPlace}
    (ht : P.underlying t = some (.slice e)) (he : P.underlying e = some .bool) (hc : P.cellsOf e = 1) (h : DataW.Trod enc P W 0 (fun _ => true) true t (.slice a len cap) d p) :
    ∃ xs : List Bool, len = xs.length ∧ RdB W a xs ∧ ((d = .nil ∧ xs = []) ∨ ∃ elems spare, d = .slice elems spare ∧ elems.length = xs.length) ∧ xs.length ≤ cap := by
  obtain ⟨fuel, hf⟩ := h
  rcases Go.Deep.open_bools ht he hc hf with ⟨hcs, hx⟩ | ⟨x, l, c, B, hcs, _, hl, hm, hx, hcell⟩
  · simp [Value.cells] at hcs
    obtain ⟨rfl, rfl, rfl⟩ := hcs
    simp only [Prod.mk.injEq] at hx
    exact ⟨[], rfl, RdB.nil _ _, .inl ⟨hx.1, rfl⟩, Nat.le_refl _⟩
  · simp [Value.cells] at hcs
    obtain ⟨rfl, rfl, rfl⟩ := hcs
    simp only [Prod.mk.injEq] at hx
    refine ⟨(List.range len).map B, by simp, fun hn => ?_, .inr ⟨_, _, hx.1, by simp⟩, by simpa using hl⟩
    obtain ⟨b, off, spot⟩ := x
    simp only [List.length_map, List.length_range] at hn
    have hspot : spot = none := by simpa [Addr.add] using World.cell?_spot (hcell 0 (by omega))
    subst hspot
    have h0 := hcell 0 (by omega)
    have hlt : b < W.heap.size := by simpa [Addr.add] using World.block_lt_of_cell? W _ h0
    refine ⟨b, off, rfl, hlt, fun j y hj => ?_⟩
    rw [List.getElem?_map] at hj
    obtain ⟨i, hi, hy⟩ := Option.map_eq_some_iff.1 hj
    obtain ⟨hil, hii⟩ := List.getElem?_eq_some_iff.1 hi
    simp only [List.length_range] at hil
    simp only [List.getElem_range] at hii
    subst hii
    have := hcell j (by omega)
    rw [show (⟨b, off, none⟩ : Addr).add j = ⟨b, off + j, none⟩ by unfold Addr.add; split <;> simp_all] at this
    rw [this, hy]
theorem bulk_rowB {H : Type} {d : DataW H} {l : List (DataW H)} {xs : List Bool} (hk : Rows.uptoSmall H l = true) (hd : d ∈ l) (h : (d = .nil ∧ xs = []) ∨ ∃ elems spare, d = .slice elems spare ∧ elems.length = xs.length) : xs.length ≤ 1048576 := by
  have h1 : Rows.uptoBulkAll l ≤ 1048576 := of_decide_eq_true hk
  have h2 := bulk_mem hd
  rcases h with ⟨_, rfl⟩ | ⟨elems, spare, rfl, he⟩
  · simp
  · simp only [Rows.uptoBulk] at h2
    have := bulk_length elems
    omega
end Go.Proofs.YtbjigbhjnmcdgaaDoor
