/- From a reading of the arguments to the words of the walks. -/
import Derived.Test.YtlbdhfpakajdaaaRows
import Derived.Test.YtlbdhfpakajdaaaMem
import Derived.ProofKit
import Derived.OpenShut
import Derived.SizedLaws
import Derived.JoinedCond
import Derived.ChangeOld
import Derived.Below
set_option linter.unusedVariables false
namespace Go.Proofs.Ytlbdhfpakajdaaa
open Go.ChangeShapes Go.WideShapes Go.ChangeAt Go.RowKit

theorem own : ownKnob Try.prog.godebug = none := by kernel_rfl
theorem laidOut : laidOutB Try.prog = true := by kernel_rfl

theorem wf_bounds {k : IntKind} {x : Int} (h : (Lit.int k x).wf = true) : k.min ≤ x ∧ x ≤ k.max := by
  simpa [Lit.wf] using h

/-- an argument that is a slice of integers -/
theorem open_row {H : Type} {enc : TypeId × Value → H} {P : Program} {W : World} {t e : TypeId} {k : IntKind} {a : Option Addr} {len cap : Nat} {d : DataW H} {p : List MemPlace}
    (ht : P.underlying t = some (.slice e)) (he : P.underlying e = some (.int k)) (hc : P.cellsOf e = 1) (h : DataW.Trod enc P W 0 (fun _ => true) true t (.slice a len cap) d p) :
    ∃ xs : List Int, len = xs.length ∧ Rd W k a xs ∧ (∀ x ∈ xs, k.min ≤ x ∧ x ≤ k.max) ∧ ((d = .nil ∧ xs = []) ∨ ∃ elems spare, d = .slice elems spare ∧ elems.length = xs.length) ∧ xs.length ≤ cap := by
  obtain ⟨fuel, hf⟩ := h
  rcases open_ints ht he hc hf with ⟨hcs, hx⟩ | ⟨x, l, c, zs, hcs, _, hl, hm, hz, hx, hcell, hwz⟩
  · simp [Value.cells] at hcs
    obtain ⟨rfl, rfl, rfl⟩ := hcs
    simp only [Prod.mk.injEq] at hx
    exact ⟨[], rfl, Rd.nil _ _ _, (fun x h => by cases h), .inl ⟨hx.1, rfl⟩, Nat.le_refl _⟩
  · simp [Value.cells] at hcs
    obtain ⟨rfl, rfl, rfl⟩ := hcs
    simp only [Prod.mk.injEq] at hx
    simp only [if_true] at hz
    refine ⟨zs.take len, by simp; omega, fun hn => ?_, fun y hy => wf_bounds (hwz y (List.mem_of_mem_take hy)), .inr ⟨_, _, hx.1, by simp [lits]⟩, by simp; omega⟩
    obtain ⟨b, off, spot⟩ := x
    simp only [List.length_take] at hn
    have hspot : spot = none := by simpa [Addr.add] using World.cell?_spot (hcell 0 (by omega))
    subst hspot
    have h0 := hcell 0 (by omega)
    have hlt : b < W.heap.size := by simpa [Addr.add] using World.block_lt_of_cell? W _ h0
    refine ⟨b, off, rfl, hlt, fun j y hj => ?_⟩
    rw [List.getElem?_take] at hj
    split at hj
    · obtain ⟨hjl, hjy⟩ := List.getElem?_eq_some_iff.1 hj
      have := hcell j hjl
      rw [show (⟨b, off, none⟩ : Addr).add j = ⟨b, off + j, none⟩ by unfold Addr.add; split <;> simp_all] at this
      rw [this]
      simp [List.getD, hj]
    · cases hj

theorem u16s {xs : List Int} (h : ∀ x ∈ xs, IntKind.u16.min ≤ x ∧ x ≤ IntKind.u16.max) : ∀ x ∈ xs, 0 ≤ x ∧ x < 65536 := fun x hx => by
  have h1 := h x hx
  have e1 : IntKind.u16.min = 0 := rfl
  have e2 : IntKind.u16.max = 65535 := rfl
  omega
theorem u8s {xs : List Int} (h : ∀ x ∈ xs, IntKind.u8.min ≤ x ∧ x ≤ IntKind.u8.max) : ∀ x ∈ xs, 0 ≤ x ∧ x < 256 := fun x hx => by
  have h1 := h x hx
  have e1 : IntKind.u8.min = 0 := rfl
  have e2 : IntKind.u8.max = 255 := rfl
  omega

/-! ### the bound of the second form -/
theorem bulk_one {H : Type} (d : DataW H) : 1 ≤ Rows.uptoBulk d := by
  cases d with
  | lit l => cases l <;> simp [Rows.uptoBulk]
  | nil => simp [Rows.uptoBulk]
  | ptr d => simp [Rows.uptoBulk]
  | slice elems spare => simp [Rows.uptoBulk]
  | agg parts => simp [Rows.uptoBulk]
  | iface t d => simp [Rows.uptoBulk]
  | map entries => simp [Rows.uptoBulk]
  | held h => simp [Rows.uptoBulk]
theorem bulk_length {H : Type} (l : List (DataW H)) : l.length ≤ Rows.uptoBulkAll l := by
  induction l with
  | nil => simp [Rows.uptoBulkAll]
  | cons x r ih => have := bulk_one x; simp only [Rows.uptoBulkAll, List.length_cons]; omega
theorem bulk_mem {H : Type} {d : DataW H} {l : List (DataW H)} (h : d ∈ l) : Rows.uptoBulk d ≤ Rows.uptoBulkAll l := by
  induction l with
  | nil => cases h
  | cons x r ih =>
    simp only [Rows.uptoBulkAll]
    rcases List.mem_cons.1 h with rfl | e
    · omega
    · have := ih e; omega
theorem bulk_row {H : Type} {d : DataW H} {l : List (DataW H)} {xs : List Int} (hk : Rows.uptoSmall H l = true) (hd : d ∈ l) (h : (d = .nil ∧ xs = []) ∨ ∃ elems spare, d = .slice elems spare ∧ elems.length = xs.length) : xs.length ≤ 1048576 := by
  have h1 : Rows.uptoBulkAll l ≤ 1048576 := of_decide_eq_true hk
  have h2 := bulk_mem hd
  rcases h with ⟨_, rfl⟩ | ⟨elems, spare, rfl, he⟩
  · simp
  · simp only [Rows.uptoBulk] at h2
    have := bulk_length elems
    omega
end Go.Proofs.Ytlbdhfpakajdaaa
