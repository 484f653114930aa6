/- Slices of slices of bytes: words, and the law of append of one slice. -/
import Derived.Test.YtlbdhfpakajdaaaBytes
import Derived.Test.YtlbdhfpakajdaaaUnits2
set_option linter.unusedVariables false
namespace Go.Proofs.Ytlbdhfpakajdaaa
open Go.RowKit P

/-- the slice at A holds these values -/
def RdV (w : World) (A : Option Addr) (vs : List Value) : Prop :=
  0 < vs.length → ∃ b off, A = some ⟨b, off, none⟩ ∧ b < w.heap.size ∧ ∀ j v, vs[j]? = some v → w.cell? ⟨b, off + j, none⟩ = some v
section
variable {w w' : World} {A : Option Addr} {vs cs : List Value} {base : Nat} {e : TypeId} {v : Value}
theorem RdV.at_ {i : Nat} (h : RdV w A vs) (hi : i < vs.length) : ∃ b off v, A = some ⟨b, off, none⟩ ∧ b < w.heap.size ∧ vs[i]? = some v ∧ w.cell? ⟨b, off + i, none⟩ = some v := by
  obtain ⟨b, off, e, hb, hc⟩ := h (by omega)
  exact ⟨b, off, vs[i], e, hb, List.getElem?_eq_getElem hi, hc i _ (List.getElem?_eq_getElem hi)⟩
theorem RdV.next (h : RdV w A vs) (hb : Below w.heap.size w w') : RdV w' A vs := fun hn => by
  obtain ⟨b, off, e, hlt, hc⟩ := h hn
  exact ⟨b, off, e, Nat.lt_of_lt_of_le hlt hb.size, fun j x hx => (hb.cell (p := ⟨b, off + j, none⟩) hlt).trans (hc j x hx)⟩
theorem OwnV.rdv {n c : Nat} (h : OwnV w base e (.slice A n c) cs) : RdV w A cs := fun hn => by
  rcases h.2 with ⟨_, h0⟩ | ⟨g, cap, cur, hv, hg, hh, _⟩
  · omega
  · injection hv with hA _ _
    subst hA
    refine ⟨g, 0, rfl, (Array.getElem?_eq_some_iff.1 hh).1, fun j x hx => ?_⟩
    have := World.ownsRow.cells h (g := g) rfl j x hx
    rw [show (⟨g, 0, none⟩ : Addr).add j = ⟨g, 0 + j, none⟩ by unfold Addr.add; split <;> simp_all] at this
    exact this

/-- the values are slices of the call's own, and hold these bytes -/
def PcsO (w : World) (base : Nat) (vs : List Value) (ls : List (List Int)) : Prop :=
  vs.length = ls.length ∧ ∀ (j : Nat) (l : List Int), ls[j]? = some l → ∃ (A : Option Addr) (c : Nat), vs[j]? = some (Value.slice A l.length c) ∧ Own w base 5 .u8 (.slice A l.length c) l
theorem PcsO.nil (w : World) (base : Nat) : PcsO w base [] [] := ⟨rfl, fun j l h => by simp at h⟩
theorem PcsO.next {ls : List (List Int)} (h : PcsO w base vs ls) (hb : Below w.heap.size w w') : PcsO w' base vs ls :=
  ⟨h.1, fun j l hj => by obtain ⟨A, c, e, o⟩ := h.2 j l hj; exact ⟨A, c, e, o.next hb⟩⟩
theorem PcsO.alloc {ls : List (List Int)} (h : PcsO w base vs ls) (o : Obj) : PcsO (w.alloc o) base vs ls :=
  ⟨h.1, fun j l hj => by obtain ⟨A, c, e, o'⟩ := h.2 j l hj; exact ⟨A, c, e, o'.alloc o⟩⟩
theorem PcsO.lower {ls : List (List Int)} (h : PcsO w base vs ls) {b : Nat} (hb : b ≤ base) : PcsO w b vs ls :=
  ⟨h.1, fun j l hj => by obtain ⟨A, c, e, o'⟩ := h.2 j l hj; exact ⟨A, c, e, o'.lower hb⟩⟩
theorem PcsO.snoc {ls : List (List Int)} {l : List Int} {c : Nat} (h : PcsO w base vs ls) (ho : Own w base 5 .u8 (.slice A l.length c) l) : PcsO w base (vs ++ [Value.slice A l.length c]) (ls ++ [l]) := by
  refine ⟨by simp [h.1], fun j m hj => ?_⟩
  rw [List.getElem?_append] at hj
  split at hj
  · rename_i hlt
    obtain ⟨A', c', e, o⟩ := h.2 j m hj
    exact ⟨A', c', by rw [List.getElem?_append_left (by rw [h.1]; exact hlt)]; exact e, o⟩
  · rename_i hge
    have hz : j - ls.length = 0 := by
      have := (List.getElem?_eq_some_iff.1 hj).1
      simp at this; omega
    rw [hz] at hj
    simp at hj
    subst hj
    refine ⟨A, c, ?_, ho⟩
    rw [List.getElem?_append_right (by rw [h.1]; omega), h.1, hz]; rfl
theorem bytes_ne : (5 : TypeId) ≠ 26 := by decide
theorem PcsO.grow {ls : List (List Int)} {v' : Value} {base2 : Nat} (h : PcsO w base vs ls) (hg : Grow w w' v v') (ho : OwnV w base2 26 v cs) : PcsO w' base vs ls :=
  ⟨h.1, fun j l hj => by obtain ⟨A, c, e, o⟩ := h.2 j l hj; exact ⟨A, c, e, (hg.own o.v (sep_types o.v ho bytes_ne)).ints⟩⟩
theorem PcsO.at_ {ls : List (List Int)} {j : Nat} (h : PcsO w base vs ls) (hj : j < ls.length) : ∃ l A c, ls[j]? = some l ∧ vs[j]? = some (Value.slice A l.length c) ∧ Own w base 5 .u8 (.slice A l.length c) l := by
  obtain ⟨A, c, e, o⟩ := h.2 j ls[j] (List.getElem?_eq_getElem hj)
  exact ⟨_, A, c, List.getElem?_eq_getElem hj, e, o⟩
end

/-- 'append(v, y)': one slice, which lies in a new block of its own -/
theorem wpList_app1v {P : Program} (w : World) {ops : Array Oper} {rest : List Oper} {o : Oper} {a : Act} {Q : Exit → Act → World → Prop} (hgd : o.guard = none) (s x : Operand) (t : TypeId)
    (ho : o.op = .call { callee := .builtin .append, args := #[s, x], argTypes := #[t, t] })
    (base : Nat) (e : TypeId) (ht : P.underlying t = some (.slice e)) (hinfo : (P.info? e).map (fun i => (i.zero, i.size, i.bytes)) = some (some (.slice none 0 0), 1, 24))
    {v : Value} {cs : List Value} (y : Value) (hy : y.oneCell' = true) (hown : OwnV w base e v cs) (hs : a.eval s = v) (hx : a.eval x = .slice (some ⟨w.heap.size, 0, none⟩) 1 1)
    (hbytes : (cs.length + 1) * 24 ≤ 140737488355328) (h63 : cs.length + 1 ≤ maxLen) (hbase : base ≤ w.heap.size)
    (h : ∀ A' c' acc w', Hid (acc = cs ++ [y]) → OwnV w' base e (.slice A' acc.length c') acc → Grow (w.alloc (.cells #[y] e)) w' v (.slice A' acc.length c') → wpList P ops Q rest (a.put o.dst (.slice A' acc.length c')) w') :
    wpList P ops Q (o :: rest) a (w.alloc (.cells #[y] e)) := by
  refine wpList_appV _ hgd s x t ho base e (.slice none 0 0) 24 ht hinfo rfl v cs hs (hown.alloc _) _ 1 1 [y] hx rfl (fun _ => ⟨_, rfl, fun j u hu => ?_⟩) (fun u hu => by simp at hu; subst hu; exact hy)
    (by simpa using hbytes) (by simpa using h63) (by simp; omega) (fun A' c' w' h2 h3 => ?_)
  · match j, hu with
    | 0, hu =>
      simp at hu; subst hu
      simp [Addr.add]
  · have e2 : cs.length + 1 = (cs ++ [y]).length := by simp
    rw [e2] at h2 h3 ⊢
    exact h A' c' (cs ++ [y]) w' rfl h2 h3
theorem Grow.below_newV {w w1 : World} {base : Nat} {e : TypeId} {v v' : Value} {cs : List Value} {o : Obj} (h : Grow (w.alloc o) w1 v v') (ho : OwnV w base e v cs) (hb : base ≤ w.heap.size) : Below base w w1 :=
  ((Below.refl base w).alloc hb o).trans (h.below (ho.alloc o) (by simp; omega))
/-- what a call that makes pieces leaves -/
def MadeP (w : World) (ls : List (List Int)) : Ending → World → Prop := fun en w' =>
  ∃ A c vs, en = .returned (.slice A vs.length c) ∧ OwnV w' w.heap.size 26 (.slice A vs.length c) vs ∧ PcsO w' w.heap.size vs ls ∧ Below w.heap.size w w'
end Go.Proofs.Ytlbdhfpakajdaaa
