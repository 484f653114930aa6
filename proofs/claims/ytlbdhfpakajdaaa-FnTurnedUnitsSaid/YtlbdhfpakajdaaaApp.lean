/- Laws of append onto a slice that the call has made, in the words of Rd and Own. -/
import Derived.Test.YtlbdhfpakajdaaaMem
import Derived.Maps.AppendAt
import Derived.Laws.AppendOwnNone
set_option linter.unusedVariables false
namespace Go.Proofs.Ytlbdhfpakajdaaa
open Go.RowKit

/-- the slice value is the call's own, from block 'base' on, and holds these values -/
def OwnV (w : World) (base : Nat) (e : TypeId) (v : Value) (cs : List Value) : Prop := w.ownsRow base e 1 v cs.length cs
theorem Own.v {w : World} {base : Nat} {e : TypeId} {k : IntKind} {v : Value} {xs : List Int} (h : Own w base e k v xs) : OwnV w base e v (xs.map (Value.int k)) := by
  unfold OwnV; rw [List.length_map]; exact h
theorem OwnV.ints {w : World} {base : Nat} {e : TypeId} {k : IntKind} {v : Value} {xs : List Int} (h : OwnV w base e v (xs.map (Value.int k))) : Own w base e k v xs := by
  unfold OwnV at h; rw [List.length_map] at h; exact h

/-- what an append onto v, which is now v', did to the world -/
structure Grow (w w' : World) (v v' : Value) : Prop where
  by_ : w.grownBy w' v.ownBlock
  lies : v'.ownBlock = v.ownBlock ∨ ∃ g, v'.ownBlock = some g ∧ w.heap.size ≤ g

/-- v lies in no block of u -/
def Sep (v u : Value) : Prop := ∀ g, v.ownBlock = some g → u.ownBlock ≠ some g

section
variable {w w' : World} {v v' u : Value} {base : Nat} {e : TypeId} {cs : List Value}
theorem OwnV.lt (h : OwnV w base e v cs) : ∀ g, v.ownBlock = some g → base ≤ g ∧ g < w.heap.size := fun g hg => World.ownsRow.lt h g hg
theorem Grow.size (h : Grow w w' v v') : w.heap.size ≤ w'.heap.size := h.by_.size
theorem Grow.below (h : Grow w w' v v') (ho : OwnV w base e v cs) (hb : base ≤ w.heap.size) : Below base w w' :=
  (Below.refl base w).grown h.by_ hb (fun g hg => (ho.lt g hg).1)
theorem Grow.own (h : Grow w w' v v') {base2 : Nat} {e2 : TypeId} {cs2 : List Value} (ho : OwnV w base2 e2 u cs2) (hs : Sep u v) : OwnV w' base2 e2 u cs2 := by
  refine World.ownsRow.kept ho h.by_ ?_
  cases hu : u.ownBlock with
  | none => exact .inl rfl
  | some g => exact .inr (fun he => hs g hu he.symm)
theorem Grow.sep (h : Grow w w' v v') {base2 : Nat} {e2 : TypeId} {cs2 : List Value} (ho : OwnV w base2 e2 u cs2) (hs : Sep u v) : Sep u v' := fun g hg hv => by
  rcases h.lies with e | ⟨g', e, hle⟩
  · exact hs g hg (e ▸ hv)
  · rw [e] at hv
    have := (ho.lt g hg).2
    injection hv with hv
    omega
theorem Sep.symm (h : Sep v u) : Sep u v := fun g hg hv => h g hv hg
theorem sep_types {base2 : Nat} {e2 : TypeId} {cs2 : List Value} (h : OwnV w base e v cs) (k : OwnV w base2 e2 u cs2) (hne : e ≠ e2) : Sep v u := fun g hg hu => by
  rcases h.2 with ⟨rfl, _⟩ | ⟨g1, _, _, rfl, _, h1, _⟩
  · simp [Value.ownBlock] at hg
  · rcases k.2 with ⟨rfl, _⟩ | ⟨g2, _, _, rfl, _, h2, _⟩
    · simp [Value.ownBlock] at hu
    · simp only [Value.ownBlock, Option.some.injEq] at hg hu
      subst hg; subst hu
      rw [h1] at h2
      injection h2 with h2
      injection h2 with _ h2
      exact hne h2
theorem OwnV.below (h : OwnV w base e v cs) {B : Nat} (hb : Below B w w') (hB : w.heap.size ≤ B) : OwnV w' base e v cs := by
  refine World.ownsRow.kept h (row := none) ⟨hb.os, hb.tape, hb.output, hb.size, fun k hk _ => hb.block k (by omega)⟩ ?_
  cases v.ownBlock <;> simp
theorem OwnV.next (h : OwnV w base e v cs) (hb : Below w.heap.size w w') : OwnV w' base e v cs := h.below hb (Nat.le_refl _)
theorem OwnV.alloc (h : OwnV w base e v cs) (o : Obj) : OwnV (w.alloc o) base e v cs := World.ownsRow.alloc h o
theorem OwnV.drewN (h : OwnV w base e v cs) (n : Nat) : OwnV (w.drewN n) base e v cs := h
theorem OwnV.lower (h : OwnV w base e v cs) {b : Nat} (hb : b ≤ base) : OwnV w b e v cs := by
  refine ⟨h.1, ?_⟩
  rcases h.2 with h | ⟨g, cap, cur, hv, hg, r⟩
  · exact .inl h
  · exact .inr ⟨g, cap, cur, hv, Nat.le_trans hb hg, r⟩
theorem OwnV.nil (w : World) (base : Nat) (e : TypeId) : OwnV w base e (.slice none 0 0) [] := World.ownsRow_nil w base e 1
theorem OwnV.empty (w : World) (e : TypeId) : OwnV (w.alloc (.cells #[] e)) w.heap.size e (.slice (some ⟨w.heap.size, 0, none⟩) 0 0) [] :=
  World.ownsRow_made w #[] 0 (Nat.le_refl _) (Nat.zero_le _) rfl
end
section
variable {w w' : World} {base : Nat} {e : TypeId} {k : IntKind} {v : Value} {xs : List Int}
theorem Own.next (h : Own w base e k v xs) (hb : Below w.heap.size w w') : Own w' base e k v xs := (h.v.next hb).ints
theorem Own.alloc (h : Own w base e k v xs) (o : Obj) : Own (w.alloc o) base e k v xs := (h.v.alloc o).ints
theorem Own.drewN (h : Own w base e k v xs) (n : Nat) : Own (w.drewN n) base e k v xs := h
theorem Own.lower (h : Own w base e k v xs) {b : Nat} (hb : b ≤ base) : Own w b e k v xs := (h.v.lower hb).ints
theorem Own.nil (w : World) (base : Nat) (e : TypeId) (k : IntKind) : Own w base e k (.slice none 0 0) [] := (OwnV.nil w base e)
theorem Own.empty (w : World) (e : TypeId) (k : IntKind) : Own (w.alloc (.cells #[] e)) w.heap.size e k (.slice (some ⟨w.heap.size, 0, none⟩) 0 0) [] := OwnV.empty w e
/-- what the call has made can be read -/
theorem Own.rd {A : Option Addr} {n c : Nat} (h : Own w base e k (.slice A n c) xs) : Rd w k A xs := fun hn => by
  rcases h.2 with ⟨_, h0⟩ | ⟨g, cap, cur, hv, hg, hh, _⟩
  · omega
  · injection hv with hA _ _
    subst hA
    refine ⟨g, 0, rfl, (Array.getElem?_eq_some_iff.1 hh).1, fun j x hx => ?_⟩
    have := World.ownsRow.cells h (g := g) rfl j (.int k x) (by simp [hx])
    rw [show (⟨g, 0, none⟩ : Addr).add j = ⟨g, 0 + j, none⟩ by unfold Addr.add; split <;> simp_all] at this
    exact this
theorem Own.len {A : Option Addr} {n c : Nat} (h : Own w base e k (.slice A n c) xs) : n = xs.length ∧ n ≤ c := by
  rcases h.2 with ⟨hv, h0⟩ | ⟨g, cap, cur, hv, hg, hh, hle, _⟩
  · injection hv; omega
  · injection hv; omega
end

section
variable {P : Program}
theorem run_app_nil (w : World) (base : Nat) (t ty e : TypeId) (i : TypeInfo) (ht : P.underlying t = some (.slice e)) (hi : P.info? e = some i) (v : Value) (xs : List Value) (hown : OwnV w base e v xs) (c : Nat) :
    (Builtin.append_ #[t, t] ty #[v, .slice none 0 c]).run P w = .ok v w := by
  rcases hown.2 with ⟨rfl, _⟩ | ⟨g, cap, cur, rfl, _, _, hnc, _⟩
  · simp [Builtin.append_, run_underlying ht, sizeOf, typeInfo, hi, Builtin.lenOf, Builtin.firstCells]
  · simp [Builtin.append_, run_underlying ht, sizeOf, typeInfo, hi, Builtin.lenOf, Builtin.firstCells, hnc, storeCells]

theorem own_form {w : World} {base : Nat} {e : TypeId} {v : Value} {n : Nat} {cs : List Value} (h : w.ownsRow base e 1 v n cs) : ∃ A c, v = .slice A n c := by
  rcases h.2 with ⟨rfl, rfl⟩ | ⟨g, cap, cur, rfl, _⟩
  · exact ⟨_, _, rfl⟩
  · exact ⟨_, _, rfl⟩

theorem run_appV (w : World) (base : Nat) (t ty e : TypeId) (z : Value) (bytes : Nat) (ht : P.underlying t = some (.slice e)) (hinfo : (P.info? e).map (fun i => (i.zero, i.size, i.bytes)) = some (some z, 1, bytes)) (hz : z.cells.size = 1)
    (v : Value) (xs : List Value) (hown : OwnV w base e v xs) (A : Option Addr) (m c : Nat) (news : List Value) (hm : news.length = m)
    (hr : 0 < m → ∃ ad, A = some ad ∧ ∀ j u, news[j]? = some u → w.cell? (ad.add j) = some u) (h1 : ∀ u ∈ news, u.oneCell' = true)
    (hbytes : (xs.length + m) * bytes ≤ 140737488355328) (h63 : xs.length + m ≤ maxLen) (hbase : base ≤ w.heap.size) :
    ∃ A' c' w', (Builtin.append_ #[t, t] ty #[v, .slice A m c]).run P w = .ok (.slice A' (xs.length + m) c') w' ∧ OwnV w' base e (.slice A' (xs.length + m) c') (xs ++ news) ∧ Grow w w' v (.slice A' (xs.length + m) c') := by
  obtain ⟨i, hi, hz0, hz1, hz2⟩ := info_parts hinfo
  subst hm
  have go : ∀ ad, A = some ad → (∀ j u, news[j]? = some u → w.cell? (ad.add j) = some u) → ∃ A' c' w', (Builtin.append_ #[t, t] ty #[v, .slice A news.length c]).run P w = .ok (.slice A' (xs.length + news.length) c') w' ∧ OwnV w' base e (.slice A' (xs.length + news.length) c') (xs ++ news) ∧ Grow w w' v (.slice A' (xs.length + news.length) c') := by
    rintro ad rfl hc
    obtain ⟨v', w', hrun, h2, h3, _, h5⟩ := run_append_own_at (P := P) w base t ty e i z 1 bytes ht hi hz0 hz1 hz2 hz (by decide) v xs.length xs hown ad news.length c news (by simp) hc h1 h63 hbytes hbase
    obtain ⟨A', c', rfl⟩ := own_form h2
    refine ⟨A', c', w', hrun, ?_, h3, ?_⟩
    · unfold OwnV; rw [List.length_append]; exact h2
    · rcases h5 with h | h
      · exact .inl h
      · exact .inr ⟨_, h, Nat.le_refl _⟩
  by_cases h0 : 0 < news.length
  · obtain ⟨ad, hA, hc⟩ := hr h0
    exact go ad hA hc
  · have hn : news = [] := List.eq_nil_of_length_eq_zero (by omega)
    cases A with
    | some ad => exact go ad rfl (fun j u hu => by rw [hn] at hu; simp at hu)
    | none =>
      subst hn
      obtain ⟨A', c', rfl⟩ := own_form hown
      refine ⟨A', c', w, ?_, ?_, ⟨⟨rfl, rfl, rfl, Nat.le_refl _, fun _ _ _ => rfl⟩, .inl rfl⟩⟩
      · exact run_app_nil w base t ty e i ht hi _ xs hown c
      · simpa using hown

theorem wpList_appV (w : World) {ops : Array Oper} {rest : List Oper} {o : Oper} {a : Act} {Q : Exit → Act → World → Prop} (hgd : o.guard = none) (s x : Operand) (t : TypeId)
    (ho : o.op = .call { callee := .builtin .append, args := #[s, x], argTypes := #[t, t] })
    (base : Nat) (e : TypeId) (z : Value) (bytes : Nat) (ht : P.underlying t = some (.slice e)) (hinfo : (P.info? e).map (fun i => (i.zero, i.size, i.bytes)) = some (some z, 1, bytes)) (hz : z.cells.size = 1)
    (v : Value) (xs : List Value) (hs : a.eval s = v) (hown : OwnV w base e v xs) (A : Option Addr) (m c : Nat) (news : List Value) (hx : a.eval x = .slice A m c) (hm : news.length = m)
    (hr : 0 < m → ∃ ad, A = some ad ∧ ∀ j u, news[j]? = some u → w.cell? (ad.add j) = some u) (h1 : ∀ u ∈ news, u.oneCell' = true)
    (hbytes : (xs.length + m) * bytes ≤ 140737488355328) (h63 : xs.length + m ≤ maxLen) (hbase : base ≤ w.heap.size)
    (h : ∀ A' c' w', OwnV w' base e (.slice A' (xs.length + m) c') (xs ++ news) → Grow w w' v (.slice A' (xs.length + m) c') → wpList P ops Q rest (a.put o.dst (.slice A' (xs.length + m) c')) w') : wpList P ops Q (o :: rest) a w := by
  refine wpList_plain hgd fun K hK => ?_
  obtain ⟨A', c', w', hrun, h2, h3⟩ := run_appV (P := P) w base t o.type e z bytes ht hinfo hz v xs hown A m c news hm hr h1 hbytes h63 hbase
  unfold Oper.wp execOp
  simp only [ho, resolve, invoke, builtin, Sem.run_bind, Sem.run_pure, Result.andThen_ok, List.map_toArray, List.map_cons, List.map_nil, hs, hx, hrun]
  exact hK _ _ (h A' c' w' h2 h3)

/-- 'append(v, y)': one integer, which lies in a new block of its own -/
theorem wpList_app1 (w : World) {ops : Array Oper} {rest : List Oper} {o : Oper} {a : Act} {Q : Exit → Act → World → Prop} (hgd : o.guard = none) (s x : Operand) (t : TypeId)
    (ho : o.op = .call { callee := .builtin .append, args := #[s, x], argTypes := #[t, t] })
    (base : Nat) (e : TypeId) (k : IntKind) (bytes : Nat) (ht : P.underlying t = some (.slice e)) (hinfo : (P.info? e).map (fun i => (i.zero, i.size, i.bytes)) = some (some (.int k 0), 1, bytes))
    {v : Value} {xs : List Int} (y : Int) (hown : Own w base e k v xs) (hs : a.eval s = v) (hx : a.eval x = .slice (some ⟨w.heap.size, 0, none⟩) 1 1)
    (hbytes : (xs.length + 1) * bytes ≤ 140737488355328) (h63 : xs.length + 1 ≤ maxLen) (hbase : base ≤ w.heap.size)
    (h : ∀ A' c' acc w', Hid (acc = xs ++ [y]) → Own w' base e k (.slice A' acc.length c') acc → Grow (w.alloc (.cells #[.int k y] e)) w' v (.slice A' acc.length c') → wpList P ops Q rest (a.put o.dst (.slice A' acc.length c')) w') :
    wpList P ops Q (o :: rest) a (w.alloc (.cells #[.int k y] e)) := by
  refine wpList_appV _ hgd s x t ho base e (.int k 0) bytes ht hinfo rfl v (xs.map (Value.int k)) hs (hown.v.alloc _) _ 1 1 [.int k y] hx rfl (fun _ => ⟨_, rfl, fun j u hu => ?_⟩) (fun u hu => by simp at hu; subst hu; rfl)
    (by simpa using hbytes) (by simpa using h63) (by simp; omega) (fun A' c' w' h2 h3 => ?_)
  · match j, hu with
    | 0, hu =>
      simp at hu; subst hu
      simp [Addr.add]
  · have e1 : xs.map (Value.int k) ++ [Value.int k y] = (xs ++ [y]).map (Value.int k) := by simp
    have e2 : (xs.map (Value.int k)).length + 1 = (xs ++ [y]).length := by simp
    rw [e1, e2] at h2
    rw [e2] at h3 ⊢
    exact h A' c' (xs ++ [y]) w' rfl h2.ints h3

/-- 'append(v, y1, .., yn)': integers, which lie in a new block of their own -/
theorem wpList_appN (w : World) {ops : Array Oper} {rest : List Oper} {o : Oper} {a : Act} {Q : Exit → Act → World → Prop} (hgd : o.guard = none) (s x : Operand) (t : TypeId)
    (ho : o.op = .call { callee := .builtin .append, args := #[s, x], argTypes := #[t, t] })
    (base : Nat) (e : TypeId) (k : IntKind) (bytes : Nat) (ht : P.underlying t = some (.slice e)) (hinfo : (P.info? e).map (fun i => (i.zero, i.size, i.bytes)) = some (some (.int k 0), 1, bytes))
    {v : Value} {xs : List Int} {cs : Array Value} (ys : List Int) (hcs : cs.toList = ys.map (Value.int k)) (n : Nat) (hn : ys.length = n) (hown : Own w base e k v xs) (hs : a.eval s = v) (hx : a.eval x = .slice (some ⟨w.heap.size, 0, none⟩) n n)
    (hbytes : (xs.length + n) * bytes ≤ 140737488355328) (h63 : xs.length + n ≤ maxLen) (hbase : base ≤ w.heap.size)
    (h : ∀ A' c' acc w', Hid (acc = xs ++ ys) → Own w' base e k (.slice A' acc.length c') acc → Grow (w.alloc (.cells cs e)) w' v (.slice A' acc.length c') → wpList P ops Q rest (a.put o.dst (.slice A' acc.length c')) w') :
    wpList P ops Q (o :: rest) a (w.alloc (.cells cs e)) := by
  refine wpList_appV _ hgd s x t ho base e (.int k 0) bytes ht hinfo rfl v (xs.map (Value.int k)) hs (hown.v.alloc _) _ n n (ys.map (Value.int k)) hx (by simpa using hn) (fun _ => ⟨_, rfl, fun j u hu => ?_⟩)
    (fun u hu => by obtain ⟨y, _, rfl⟩ := List.mem_map.1 hu; rfl)
    (by simpa using hbytes) (by simpa using h63) (by simp; omega) (fun A' c' w' h2 h3 => ?_)
  · rw [show (⟨w.heap.size, 0, none⟩ : Addr).add j = ⟨w.heap.size, j, none⟩ by unfold Addr.add; split <;> simp_all, World.cell?_alloc_at _ _ _ _ rfl]
    rw [← hcs] at hu
    simpa using hu
  · have e1 : xs.map (Value.int k) ++ ys.map (Value.int k) = (xs ++ ys).map (Value.int k) := by simp
    have e2 : (xs.map (Value.int k)).length + n = (xs ++ ys).length := by simp [hn]
    rw [e1, e2] at h2
    rw [e2] at h3 ⊢
    exact h A' c' (xs ++ ys) w' rfl h2.ints h3

/-- 'append(v, src...)': integers that are read out of a slice -/
theorem wpList_appRd (w : World) {ops : Array Oper} {rest : List Oper} {o : Oper} {a : Act} {Q : Exit → Act → World → Prop} (hgd : o.guard = none) (s x : Operand) (t : TypeId)
    (ho : o.op = .call { callee := .builtin .append, args := #[s, x], argTypes := #[t, t] })
    (base : Nat) (e : TypeId) (k : IntKind) (bytes : Nat) (ht : P.underlying t = some (.slice e)) (hinfo : (P.info? e).map (fun i => (i.zero, i.size, i.bytes)) = some (some (.int k 0), 1, bytes))
    {v : Value} {xs : List Int} {A : Option Addr} (c : Nat) {ys : List Int} (hr : Rd w k A ys) (n : Nat) (hn : ys.length = n) (hown : Own w base e k v xs) (hs : a.eval s = v) (hx : a.eval x = .slice A n c)
    (hbytes : (xs.length + ys.length) * bytes ≤ 140737488355328) (h63 : xs.length + ys.length ≤ maxLen) (hbase : base ≤ w.heap.size)
    (h : ∀ A' c' acc w', Hid (acc = xs ++ ys) → Own w' base e k (.slice A' acc.length c') acc → Grow w w' v (.slice A' acc.length c') → wpList P ops Q rest (a.put o.dst (.slice A' acc.length c')) w') :
    wpList P ops Q (o :: rest) a w := by
  subst hn
  refine wpList_appV _ hgd s x t ho base e (.int k 0) bytes ht hinfo rfl v (xs.map (Value.int k)) hs hown.v A ys.length c (ys.map (Value.int k)) hx (by simp) (fun h0 => ?_)
    (fun u hu => by obtain ⟨y, _, rfl⟩ := List.mem_map.1 hu; rfl)
    (by simpa using hbytes) (by simpa using h63) hbase (fun A' c' w' h2 h3 => ?_)
  · obtain ⟨b, off, rfl, _, hc⟩ := hr h0
    refine ⟨_, rfl, fun j u hu => ?_⟩
    rw [show (⟨b, off, none⟩ : Addr).add j = ⟨b, off + j, none⟩ by unfold Addr.add; split <;> simp_all]
    simp only [List.getElem?_map, Option.map_eq_some_iff] at hu
    obtain ⟨y, hy, rfl⟩ := hu
    exact hc j y hy
  · have e1 : xs.map (Value.int k) ++ ys.map (Value.int k) = (xs ++ ys).map (Value.int k) := by simp
    have e2 : (xs.map (Value.int k)).length + ys.length = (xs ++ ys).length := by simp
    rw [e1, e2] at h2
    rw [e2] at h3 ⊢
    exact h A' c' (xs ++ ys) w' rfl h2.ints h3
end

section
variable {w w1 : World} {base : Nat} {e : TypeId} {k : IntKind} {v v' : Value} {xs : List Int} {o : Obj}
/-- the world behind an append, below the slice's own blocks -/
theorem Grow.below_new (h : Grow (w.alloc o) w1 v v') (ho : Own w base e k v xs) (hb : base ≤ w.heap.size) : Below base w w1 :=
  ((Below.refl base w).alloc hb o).trans (h.below (ho.v.alloc o) (by simp; omega))
theorem Grow.below_ (h : Grow w w1 v v') (ho : Own w base e k v xs) (hb : base ≤ w.heap.size) : Below base w w1 := h.below ho.v hb
end

/-- the world behind an append onto a new empty literal -/
theorem Grow.below_lit {w w1 : World} {e : TypeId} {v' : Value} (h : Grow (w.alloc (.cells #[] e)) w1 (.slice (some ⟨w.heap.size, 0, none⟩) 0 0) v') : Below w.heap.size w w1 :=
  ((Below.refl _ _).alloc (Nat.le_refl _) _).trans (h.below (OwnV.empty w e) (by simp))

theorem info_u8 : (Try.prog.info? 5).map (fun i => (i.zero, i.size, i.bytes)) = some (some (.int .u8 0), 1, 1) := by kernel_rfl
theorem info_u16 : (Try.prog.info? 37).map (fun i => (i.zero, i.size, i.bytes)) = some (some (.int .u16 0), 1, 2) := by kernel_rfl
theorem info_i32 : (Try.prog.info? 21).map (fun i => (i.zero, i.size, i.bytes)) = some (some (.int .i32 0), 1, 4) := by kernel_rfl
theorem info_int : (Try.prog.info? 3).map (fun i => (i.zero, i.size, i.bytes)) = some (some (.int .i64 0), 1, 8) := by kernel_rfl
theorem info_bool : (Try.prog.info? 4).map (fun i => (i.zero, i.size, i.bytes)) = some (some (.bool false), 1, 1) := by kernel_rfl
theorem info_bytes : (Try.prog.info? 26).map (fun i => (i.zero, i.size, i.bytes)) = some (some (.slice none 0 0), 1, 24) := by kernel_rfl
end Go.Proofs.Ytlbdhfpakajdaaa
