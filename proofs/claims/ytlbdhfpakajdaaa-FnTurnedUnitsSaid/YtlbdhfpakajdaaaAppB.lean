/- The same words and laws for slices of bools. -/
import Derived.Test.YtlbdhfpakajdaaaBytes
set_option linter.unusedVariables false
namespace Go.Proofs.Ytlbdhfpakajdaaa
open Go.RowKit

def RdB (w : World) (A : Option Addr) (bs : List Bool) : Prop :=
  0 < bs.length → ∃ b off, A = some ⟨b, off, none⟩ ∧ b < w.heap.size ∧ ∀ j x, bs[j]? = some x → w.cell? ⟨b, off + j, none⟩ = some (.bool x)
def OwnB (w : World) (base : Nat) (e : TypeId) (v : Value) (bs : List Bool) : Prop := w.ownsRow base e 1 v bs.length (bs.map Value.bool)
section
variable {w w' : World} {A : Option Addr} {bs : List Bool} {base : Nat} {e : TypeId} {v : Value}
theorem RdB.at_ {i : Nat} (h : RdB w A bs) (hi : i < bs.length) : ∃ b off x, A = some ⟨b, off, none⟩ ∧ b < w.heap.size ∧ bs[i]? = some x ∧ w.cell? ⟨b, off + i, none⟩ = some (.bool x) := by
  obtain ⟨b, off, e, hb, hc⟩ := h (by omega)
  exact ⟨b, off, bs[i], e, hb, List.getElem?_eq_getElem hi, hc i _ (List.getElem?_eq_getElem hi)⟩
theorem RdB.next (h : RdB w A bs) (hb : Below w.heap.size w w') : RdB w' A bs := fun hn => by
  obtain ⟨b, off, e, hlt, hc⟩ := h hn
  exact ⟨b, off, e, Nat.lt_of_lt_of_le hlt hb.size, fun j x hx => (hb.cell (p := ⟨b, off + j, none⟩) hlt).trans (hc j x hx)⟩
theorem RdB.drewN (h : RdB w A bs) (n : Nat) : RdB (w.drewN n) A bs := h
theorem RdB.nil (w : World) (A : Option Addr) : RdB w A [] := fun h => absurd h (by simp)
theorem OwnB.vs (h : OwnB w base e v bs) : OwnV w base e v (bs.map Value.bool) := by
  unfold OwnV; rw [List.length_map]; exact h
theorem OwnV.bools (h : OwnV w base e v (bs.map Value.bool)) : OwnB w base e v bs := by
  unfold OwnV at h; rw [List.length_map] at h; exact h
theorem OwnB.next (h : OwnB w base e v bs) (hb : Below w.heap.size w w') : OwnB w' base e v bs := (h.vs.next hb).bools
theorem OwnB.nil (w : World) (base : Nat) (e : TypeId) : OwnB w base e (.slice none 0 0) [] := OwnV.nil w base e
theorem OwnB.empty (w : World) (e : TypeId) : OwnB (w.alloc (.cells #[] e)) w.heap.size e (.slice (some ⟨w.heap.size, 0, none⟩) 0 0) [] := OwnV.empty w e
theorem OwnB.rd {n c : Nat} (h : OwnB w base e (.slice A n c) bs) : RdB w A bs := fun hn => by
  rcases h.2 with ⟨_, h0⟩ | ⟨g, cap, cur, hv, hg, hh, _⟩
  · omega
  · injection hv with hA _ _
    subst hA
    refine ⟨g, 0, rfl, (Array.getElem?_eq_some_iff.1 hh).1, fun j x hx => ?_⟩
    have := World.ownsRow.cells h (g := g) rfl j (.bool x) (by simp [hx])
    rw [show (⟨g, 0, none⟩ : Addr).add j = ⟨g, 0 + j, none⟩ by unfold Addr.add; split <;> simp_all] at this
    exact this
theorem Grow.below_newB {w1 : World} {v' : Value} {o : Obj} (h : Grow (w.alloc o) w1 v v') (ho : OwnB w base e v bs) (hb : base ≤ w.heap.size) : Below base w w1 :=
  ((Below.refl base w).alloc hb o).trans (h.below (ho.vs.alloc o) (by simp; omega))
end

/-- 'append(v, y)' of one bool -/
theorem wpList_app1b {P : Program} (w : World) {ops : Array Oper} {rest : List Oper} {o : Oper} {a : Act} {Q : Exit → Act → World → Prop} (hgd : o.guard = none) (s x : Operand) (t : TypeId)
    (ho : o.op = .call { callee := .builtin .append, args := #[s, x], argTypes := #[t, t] })
    (base : Nat) (e : TypeId) (ht : P.underlying t = some (.slice e)) (hinfo : (P.info? e).map (fun i => (i.zero, i.size, i.bytes)) = some (some (.bool false), 1, 1))
    {v : Value} {xs : List Bool} (y : Bool) (hown : OwnB w base e v xs) (hs : a.eval s = v) (hx : a.eval x = .slice (some ⟨w.heap.size, 0, none⟩) 1 1)
    (hbytes : xs.length + 1 ≤ 140737488355328) (hbase : base ≤ w.heap.size)
    (h : ∀ A' c' acc w', Hid (acc = xs ++ [y]) → OwnB w' base e (.slice A' acc.length c') acc → Grow (w.alloc (.cells #[.bool y] e)) w' v (.slice A' acc.length c') → wpList P ops Q rest (a.put o.dst (.slice A' acc.length c')) w') :
    wpList P ops Q (o :: rest) a (w.alloc (.cells #[.bool y] e)) := by
  refine wpList_appV _ hgd s x t ho base e (.bool false) 1 ht hinfo rfl v (xs.map Value.bool) hs (hown.vs.alloc _) _ 1 1 [.bool y] hx rfl (fun _ => ⟨_, rfl, fun j u hu => ?_⟩) (fun u hu => by simp at hu; subst hu; rfl)
    (by simpa using hbytes) (by unfold maxLen; simp; omega) (by simp; omega) (fun A' c' w' h2 h3 => ?_)
  · match j, hu with
    | 0, hu =>
      simp at hu; subst hu
      simp [Addr.add]
  · have e1 : xs.map Value.bool ++ [Value.bool y] = (xs ++ [y]).map Value.bool := by simp
    have e2 : (xs.map Value.bool).length + 1 = (xs ++ [y]).length := by simp
    rw [e1, e2] at h2
    rw [e2] at h3 ⊢
    exact h A' c' (xs ++ [y]) w' rfl h2.bools h3

/-- what a call that makes a new slice of bools leaves -/
def MadeB (w : World) (e : TypeId) (xs : List Bool) : Ending → World → Prop := fun en w' =>
  ∃ A c ys, Hid (ys = xs) ∧ en = .returned (.slice A ys.length c) ∧ OwnB w' w.heap.size e (.slice A ys.length c) ys ∧ Below w.heap.size w w'
end Go.Proofs.Ytlbdhfpakajdaaa
