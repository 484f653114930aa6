/- A slice of the call's own that may begin behind its block's first cell: reading it, cutting it from its front, appending to it. -/
import Derived.Test.YtbjigbhjnmcdgaaDoorScript
import Derived.Deep.AppendSrc
import Derived.Deep.Upon
set_option linter.unusedVariables false
namespace Go.Proofs.YtbjigbhjnmcdgaaDoor
open Go.RowKit P

def OwnAt (w : World) (base : Nat) (e : TypeId) (k : IntKind) (v : Value) (xs : List Int) : Prop :=
  (∃ A, v = .slice A 0 0 ∧ xs = [] ∧ Lies A 0) ∨
  ∃ g off cap cur, v = .slice (some ⟨g, off, none⟩) xs.length cap ∧ base ≤ g ∧ w.heap[g]? = some (.cells cur e (0, 0)) ∧ xs.length ≤ cap ∧ off + cap ≤ cur.size ∧ (cur.toList.drop off).take xs.length = xs.map (Value.int k)

/-- the row that an append to a slice may write -/
def rowOf : Value → Option Nat
  | .slice (some a) _ (_ + 1) => some a.block
  | _ => none
/-- rows of other element types are as they were -/
def Oth (w w' : World) (e : TypeId) : Prop := ∀ (g : Nat) (cur : Array Value) (e2 : TypeId), e2 ≠ e → w.heap[g]? = some (Obj.cells cur e2 (0, 0)) → w'.heap[g]? = w.heap[g]?
section
variable {w w' : World} {base : Nat} {e : TypeId} {k : IntKind} {A : Option Addr} {n c : Nat} {xs : List Int} {v : Value}
theorem row_at {L : List Value} {xs : List Int} {off : Nat} (h : (L.drop off).take xs.length = xs.map (Value.int k)) {j : Nat} {x : Int} (hx : xs[j]? = some x) : L[off + j]? = some (.int k x) := by
  have hj := (List.getElem?_eq_some_iff.1 hx).1
  have h2 := congrArg (fun z => z[j]?) h
  simp only [List.getElem?_map, hx, Option.map_some] at h2
  rw [List.getElem?_take_of_lt hj, List.getElem?_drop] at h2
  exact h2
theorem OwnAt.rd (h : OwnAt w base e k (.slice A n c) xs) : Rd w k A xs := fun hn => by
  rcases h with ⟨A', hv, rfl, _⟩ | ⟨g, off, cap, cur, hv, hg, hh, hle, hfit, hrow⟩
  · simp at hn
  · injection hv with hA _ _
    subst hA
    refine ⟨g, off, rfl, (Array.getElem?_eq_some_iff.1 hh).1, fun j x hx => ?_⟩
    rw [cell_of_row w g (off + j) cur e (0, 0) hh]
    have := row_at hrow hx
    simpa using this
theorem OwnAt.len (h : OwnAt w base e k (.slice A n c) xs) : n = xs.length ∧ n ≤ c := by
  rcases h with ⟨A', hv, rfl, _⟩ | ⟨g, off, cap, cur, hv, hg, hh, hle, hfit, hrow⟩
  · injection hv with _ h2 h3; subst h2 h3; exact ⟨rfl, Nat.le_refl _⟩
  · injection hv with _ h2 h3; subst h2 h3; exact ⟨rfl, hle⟩
theorem OwnAt.lies (h : OwnAt w base e k (.slice A n c) xs) : Lies A c := by
  rcases h with ⟨A', hv, rfl, hl⟩ | ⟨g, off, cap, cur, hv, hg, hh, hle, hfit, hrow⟩
  · injection hv with h1 h2 h3; subst h1 h3; exact hl
  · injection hv with h1 h2 h3; exact .inr ⟨g, off, h1⟩
theorem OwnAt.block (h : OwnAt w base e k v xs) (hb : ∀ g, base ≤ g → g < w.heap.size → (∃ cur, w.heap[g]? = some (.cells cur e (0, 0))) → w'.heap[g]? = w.heap[g]?) : OwnAt w' base e k v xs := by
  rcases h with h | ⟨g, off, cap, cur, hv, hg, hh, hle, hfit, hrow⟩
  · exact .inl h
  · exact .inr ⟨g, off, cap, cur, hv, hg, by rw [hb g hg (Array.getElem?_eq_some_iff.1 hh).1 ⟨cur, hh⟩]; exact hh, hle, hfit, hrow⟩
theorem OwnAt.next (h : OwnAt w base e k v xs) (hb : Below w.heap.size w w') : OwnAt w' base e k v xs := h.block fun g _ hlt _ => hb.block g hlt
theorem OwnAt.alloc (h : OwnAt w base e k v xs) (o : Obj) : OwnAt (w.alloc o) base e k v xs := h.next ((Below.refl _ _).alloc (Nat.le_refl _) o)
theorem OwnAt.empty (base : Nat) (b : Nat) : OwnAt w base e k (.slice (some ⟨b, 0, none⟩) 0 0) [] := .inl ⟨_, rfl, rfl, .inr ⟨b, 0, rfl⟩⟩
/-- an append to a slice of another element type leaves it -/
theorem OwnAt.grow {u u' : Value} {base2 : Nat} {e2 : TypeId} {cs : List Value} (h : OwnAt w base e k v xs) (hg : Grow w w' u u') (ho : OwnV w base2 e2 u cs) (hne : e2 ≠ e) : OwnAt w' base e k v xs := by
  refine h.block fun g _ hlt ⟨cur, hc⟩ => hg.by_.block g hlt fun hu => ?_
  rcases ho.2 with ⟨rfl, _⟩ | ⟨g2, _, _, rfl, _, h2, _⟩
  · simp [Value.ownBlock] at hu
  · simp only [Value.ownBlock, Option.some.injEq] at hu
    subst hu
    rw [hc] at h2
    injection h2 with h2
    injection h2 with _ h2
    exact hne h2.symm
theorem OwnAt.row_lt (h : OwnAt w base e k v xs) {g : Nat} (hg : rowOf v = some g) : g < w.heap.size := by
  rcases h with ⟨A', rfl, _, _⟩ | ⟨g', off, cap, cur, rfl, _, hh, _⟩
  · cases A' <;> simp [rowOf] at hg
  · cases cap with
    | zero => simp [rowOf] at hg
    | succ n =>
      simp only [rowOf, Option.some.injEq] at hg
      subst hg
      exact (Array.getElem?_eq_some_iff.1 hh).1
theorem OwnAt.oth {e2 : TypeId} (h : OwnAt w base e k v xs) (ho : Oth w w' e2) (hne : e ≠ e2) : OwnAt w' base e k v xs := h.block fun g _ _ ⟨cur, hc⟩ => ho g cur e hne hc
theorem OwnV.oth {e2 : TypeId} {cs : List Value} (h : OwnV w base e v cs) (ho : Oth w w' e2) (hne : e ≠ e2) : OwnV w' base e v cs := by
  refine ⟨h.1, ?_⟩
  rcases h.2 with h | ⟨g, cap, cur, hv, hb, hg, r⟩
  · exact .inl h
  · exact .inr ⟨g, cap, cur, hv, hb, by rw [ho g cur e hne hg]; exact hg, r⟩
theorem OwnAt.cut (h : OwnAt w base e k (.slice A xs.length c) xs) (m : Nat) (hm : m ≤ xs.length) : OwnAt w base e k (.slice (cutA A c m) (xs.length - m) (c - m)) (xs.drop m) := by
  rcases h with ⟨A', hv, rfl, hl⟩ | ⟨g, off, cap, cur, hv, hg, hh, hle, hfit, hrow⟩
  · injection hv with h1 h2 h3
    subst h1 h3
    simp at hm
    subst hm
    exact .inl ⟨A, by simp [cutA], rfl, hl⟩
  · injection hv with h1 h2 h3
    subst h1 h3
    by_cases hc : c = m
    · have hx : xs.drop m = [] := List.drop_eq_nil_of_le (by omega)
      refine .inl ⟨some ⟨g, off, none⟩, ?_, hx, .inr ⟨g, off, rfl⟩⟩
      unfold cutA
      rw [if_pos hc, show xs.length - m = 0 by omega, show c - m = 0 by omega]
    · refine .inr ⟨g, off + m, c - m, cur, ?_, hg, hh, by rw [List.length_drop]; omega, by omega, ?_⟩
      · unfold cutA
        rw [if_neg hc, List.length_drop]
        simp only [Option.map_some]
        congr 2
        unfold Addr.add; split <;> simp_all
      · rw [List.length_drop, ← List.drop_drop, ← List.drop_take, List.map_drop, ← hrow]
end

theorem splice (L X news : List Value) (off : Nat) (h0 : off ≤ L.length) (hX : (L.drop off).take X.length = X) :
    ((L.take (off + X.length) ++ news ++ L.drop (off + X.length + news.length)).drop off).take (X.length + news.length) = X ++ news := by
  have h2 : L.take (off + X.length) = L.take off ++ X := by rw [List.take_add, hX]
  rw [h2, List.append_assoc, List.append_assoc]
  have h1 : (L.take off).length = off := by rw [List.length_take]; omega
  rw [List.drop_append_of_le_length (by omega), List.drop_of_length_le (by omega), List.nil_append, ← List.append_assoc]
  rw [List.take_append_of_le_length (by simp), List.take_of_length_le (by simp)]

section
variable {P : Program}
theorem run_app_at (w : World) (base : Nat) (t ty e : TypeId) (k : IntKind) (bytes : Nat) (ht : P.underlying t = some (.slice e)) (hinfo : (P.info? e).map (fun i => (i.zero, i.size, i.bytes)) = some (some (.int k 0), 1, bytes))
    {v : Value} {xs : List Int} (hown : OwnAt w base e k v xs) {A : Option Addr} {m c : Nat} {ys : List Int} (hr : Rd w k A ys) (hm : ys.length = m)
    (hbytes : (xs.length + m) * bytes ≤ 140737488355328) (h63 : xs.length + m ≤ maxLen) (hbase : base ≤ w.heap.size) :
    ∃ A' c' w', (Builtin.append_ #[t, t] ty #[v, .slice A m c]).run P w = .ok (.slice A' (xs.length + m) c') w' ∧ OwnAt w' base e k (.slice A' (xs.length + m) c') (xs ++ ys) ∧ Below base w w' ∧ w.grownBy w' (rowOf v) ∧
      Oth w w' e := by
  obtain ⟨i, hi, hz0, hz1, hz2⟩ := info_parts hinfo
  subst hm
  have hsmall : xs.length + ys.length ≤ 9223372036854775807 := by simp only [maxLen] at h63; omega
  have hsrc : Src P i.size t (.slice A ys.length c) ys.length (ys.map (Value.int k)) w := by
    by_cases h0 : 0 < ys.length
    · obtain ⟨b, off, rfl, _, hc⟩ := hr h0
      refine Src.ofSlice w ht _ _ _ _ (by rw [hz1]; simp) (fun j u hu => ?_) (fun u hu => by obtain ⟨y, _, rfl⟩ := List.mem_map.1 hu; rfl)
      rw [show (⟨b, off, none⟩ : Addr).add j = ⟨b, off + j, none⟩ by unfold Addr.add; split <;> simp_all]
      simp only [List.getElem?_map, Option.map_eq_some_iff] at hu
      obtain ⟨y, hy, rfl⟩ := hu
      exact hc j y hy
    · obtain rfl : ys = [] := List.eq_nil_of_length_eq_zero (by omega)
      cases A with
      | none => exact Src.ofNil w ht c
      | some a => exact Src.ofSlice w ht a 0 c [] (by simp) (fun j u hu => by simp at hu) (fun u hu => by simp at hu)
  by_cases h0 : ys.length = 0
  · obtain rfl : ys = [] := List.eq_nil_of_length_eq_zero h0
    have hst : ∃ A0 c0, v = .slice A0 xs.length c0 ∧ xs.length ≤ c0 := by
      rcases hown with ⟨A', hv, rfl, _⟩ | ⟨g, off, cap, cur, hv, _, _, hle, _⟩
      · exact ⟨A', 0, hv, Nat.le_refl _⟩
      · exact ⟨_, cap, hv, hle⟩
    obtain ⟨A0, c0, rfl, hle⟩ := hst
    refine ⟨A0, c0, w, ?_, ?_, Below.refl _ _, ⟨rfl, rfl, rfl, Nat.le_refl _, fun _ _ _ => rfl⟩, fun _ _ _ _ _ => rfl⟩
    · exact run_append_nothing w t t ty e i ht hi A0 xs.length c0 hle _ hsrc
    · simpa using hown
  -- what the growing arm leaves
  have grown : ∀ (A0 : Option Addr) (old : Nat), old < xs.length + ys.length → (Builtin.firstCells i.size xs.length (.slice A0 xs.length old)).run P w.drew = .ok (xs.map (Value.int k)).toArray w.drew →
      ∃ A' c' w', (Builtin.append_ #[t, t] ty #[.slice A0 xs.length old, .slice A ys.length c]).run P w = .ok (.slice A' (xs.length + ys.length) c') w' ∧ OwnAt w' base e k (.slice A' (xs.length + ys.length) c') (xs ++ ys) ∧ Below base w w' ∧ w.grownBy w' (rowOf (.slice A0 xs.length old)) ∧
        Oth w w' e := by
    intro A0 old ho hf
    have hr' := run_append_grow_src (P := P) w t t ty e i (.int k 0) ht hi hz0 A0 xs.length old (xs.map (Value.int k)) hf _ ys.length _ hsrc ho (by omega) (growslice_fits ho (by rw [hz2]; exact hbytes))
    have hge := grownCap_ge w (xs.length + ys.length) old e
    have hbel : Below w.heap.size w (w.drew.alloc (.cells ((xs.map (Value.int k) ++ ys.map (Value.int k)).toArray ++ Builtin.zeroCells (Value.int k 0).cells (grownCap w (xs.length + ys.length) old e - (xs.length + ys.length))) e)) :=
      ⟨rfl, rfl, rfl, by simp, fun g hg => heap_alloc_old w.drew _ hg⟩
    refine ⟨_, _, _, hr', .inr ⟨w.heap.size, 0, _, _, by rw [List.length_append], hbase, heap_alloc_new w.drew _, by rw [List.length_append]; exact hge, ?_, ?_⟩, hbel.mono hbase, ⟨rfl, rfl, rfl, by simp, fun q hq _ => hbel.block q hq⟩, fun g cur e2 _ h => hbel.block g (Array.getElem?_eq_some_iff.1 h).1⟩
    · rw [Array.size_append, List.size_toArray, size_zeroCells, List.length_append, List.length_map, List.length_map]
      have : (Value.int k 0).cells.size = 1 := rfl
      rw [this]; omega
    · rw [Array.toList_append, List.drop_zero, List.take_append_of_le_length (by simp), List.take_of_length_le (by simp)]
      simp
  rcases hown with ⟨A', rfl, rfl, hl⟩ | ⟨g, off, cap, cur, rfl, hg, hh, hle, hfit, hrow⟩
  · refine grown A' 0 (by simp; omega) ?_
    rw [hz1]
    rcases hl with ⟨rfl, _⟩ | ⟨b, off, rfl⟩
    · simp [Builtin.firstCells]
    · simp [Builtin.firstCells, loadCells, loadCellsFrom]
  · by_cases hroom : xs.length + ys.length ≤ cap
    · have hst := run_storeCells_at P g (off + xs.length) e (ys.map (Value.int k)) 0 cur w hh (by simp; omega) (fun u hu => by obtain ⟨y, _, rfl⟩ := List.mem_map.1 hu; rfl)
      simp only [Nat.add_zero] at hst
      have hrun : (Builtin.append_ #[t, t] ty #[.slice (some ⟨g, off, none⟩) xs.length cap, .slice A ys.length c]).run P w = .ok (.slice (some ⟨g, off, none⟩) (xs.length + ys.length) cap) (w.setRow g (cur.toList.take (off + xs.length) ++ ys.map (Value.int k) ++ cur.toList.drop (off + xs.length + (ys.map (Value.int k)).length)).toArray) := by
        have hc := hsrc.cells
        rw [hz1] at hc
        simp [Builtin.append_, run_underlying ht, sizeOf, typeInfo, hi, hz1, Builtin.lenOf, hroom, hc, Addr.add_lit]
        simp only [List.length_map] at hst
        rw [hst]
        simp
      have hbel : Below base w (w.setRow g (cur.toList.take (off + xs.length) ++ ys.map (Value.int k) ++ cur.toList.drop (off + xs.length + (ys.map (Value.int k)).length)).toArray) :=
        ⟨rfl, rfl, rfl, by simp, fun q hq => setRow_other w g q _ (by omega)⟩
      refine ⟨_, _, _, hrun, .inr ⟨g, off, cap, _, by rw [List.length_append], hg, setRow_heap w g cur _ e _ hh, by rw [List.length_append]; exact hroom, ?_, ?_⟩, hbel, ⟨rfl, rfl, rfl, by simp, fun q _ hq => setRow_other w g q _ (fun e => hq ?_)⟩, ?_⟩
      · simp only [List.size_toArray, List.length_append, List.length_take, List.length_drop, Array.length_toList, List.length_map]
        omega
      · have := splice cur.toList (xs.map (Value.int k)) (ys.map (Value.int k)) off (by rw [Array.length_toList]; omega) (by rw [List.length_map]; exact hrow)
        rw [List.length_map, List.length_map] at this
        rw [List.length_append, List.map_append, List.length_map]
        exact this
      · obtain ⟨c1, rfl⟩ : ∃ c1, cap = c1 + 1 := ⟨cap - 1, by omega⟩
        rw [e]; rfl
      · intro g2 cur2 e2 hne h2
        refine setRow_other w g g2 _ fun h => ?_
        subst h
        rw [hh] at h2
        injection h2 with h2
        injection h2 with _ h2
        exact hne h2.symm
    · refine grown _ cap (by omega) ?_
      rw [hz1]
      refine run_firstCells_some w.drew 1 xs.length ⟨g, off, none⟩ xs.length cap _ (by simp) (fun j u hu => ?_)
      simp only [List.getElem?_map, Option.map_eq_some_iff] at hu
      obtain ⟨x, hx, rfl⟩ := hu
      rw [Addr.add_lit]
      show w.cell? _ = _
      rw [cell_of_row w g (off + j) cur e (0, 0) hh]
      simpa using row_at hrow hx

theorem wpList_appAt (w : World) {ops : Array Oper} {rest : List Oper} {o : Oper} {a : Act} {Q : Exit → Act → World → Prop} (hw : Region.wanted o (yielded ops a.tmps) = true) (s x : Operand) (t : TypeId)
    (ho : o.op = .call { callee := .builtin .append, args := #[s, x], argTypes := #[t, t] })
    (base : Nat) (e : TypeId) (k : IntKind) (bytes : Nat) (ht : P.underlying t = some (.slice e)) (hinfo : (P.info? e).map (fun i => (i.zero, i.size, i.bytes)) = some (some (.int k 0), 1, bytes))
    {v : Value} {xs : List Int} {A : Option Addr} (c : Nat) {ys : List Int} (hr : Rd w k A ys) (n : Nat) (hn : ys.length = n) (hown : OwnAt w base e k v xs) (hs : a.eval s = v) (hx : a.eval x = .slice A n c)
    (hbytes : (xs.length + ys.length) * bytes ≤ 140737488355328) (h63 : xs.length + ys.length ≤ maxLen) (hbase : base ≤ w.heap.size)
    (h : ∀ A' c' acc w', Hid (acc = xs ++ ys) → OwnAt w' base e k (.slice A' acc.length c') acc → Below base w w' → w.grownBy w' (rowOf v) → Oth w w' e → wpList P ops Q rest (a.put o.dst (.slice A' acc.length c')) w') :
    wpList P ops Q (o :: rest) a w := by
  subst hn
  refine BigFrame.wpList_want hw fun K hK => ?_
  obtain ⟨A', c', w', hrun, h2, h3, h5, h4⟩ := run_app_at (P := P) w base t o.type e k bytes ht hinfo hown hr rfl (c := c) hbytes h63 hbase
  unfold Oper.wp execOp
  simp only [ho, resolve, invoke, builtin, Sem.run_bind, Sem.run_pure, Result.andThen_ok, List.map_toArray, List.map_cons, List.map_nil, hs, hx, hrun]
  have e2 : xs.length + ys.length = (xs ++ ys).length := by simp
  rw [e2] at h2 ⊢
  exact hK _ _ (h A' c' (xs ++ ys) w' rfl h2 h3 h5 h4)
end
end Go.Proofs.YtbjigbhjnmcdgaaDoor
