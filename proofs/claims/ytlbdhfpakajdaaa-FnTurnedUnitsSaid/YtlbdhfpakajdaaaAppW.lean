/- The law of append of one integer onto a slice of the call's own, up to the model's own bound. -/
import Derived.Test.YtlbdhfpakajdaaaApp
import Derived.Test.YtlbdhfpakajdaaaStep
import Derived.Deep.AppendSrc
import Derived.Deep.DeepAppendWide
set_option linter.unusedVariables false
namespace Go.Proofs.Ytlbdhfpakajdaaa
open Go.RowKit

/-- so many elements of so many bytes fit, whatever the room was before -/
structure Fits (n bytes : Nat) : Prop where
  le : (n + n / 4 + 192) * bytes ≤ 281474976710656
theorem Fits.mono {n m b : Nat} (h : Fits m b) (hnm : n ≤ m) : Fits n b := ⟨Nat.le_trans (Nat.mul_le_mul_right _ (by omega)) h.le⟩
theorem Fits.four {n : Nat} (h : Fits n 4) : n ≤ 70368744177664 := by have := h.le; omega
theorem Fits.of {n : Nat} (h : n ≤ 56294995341977) : Fits n 4 := ⟨by omega⟩
section
variable {P : Program}
theorem run_appVw (w : World) (base : Nat) (t ty e : TypeId) (z : Value) (bytes : Nat) (ht : P.underlying t = some (.slice e)) (hinfo : (P.info? e).map (fun i => (i.zero, i.size, i.bytes)) = some (some z, 1, bytes)) (hz : z.cells.size = 1)
    (v : Value) (xs : List Value) (hown : OwnV w base e v xs) (ad : Addr) (m c : Nat) (news : List Value) (hm : news.length = m) (h0 : 0 < m)
    (hc : ∀ j u, news[j]? = some u → w.cell? (ad.add j) = some u) (h1 : ∀ u ∈ news, u.oneCell' = true)
    (hbytes : Fits (xs.length + m) bytes) (h63 : xs.length + m ≤ maxLen) (hbase : base ≤ w.heap.size) :
    ∃ A' c' w', (Builtin.append_ #[t, t] ty #[v, .slice (some ad) m c]).run P w = .ok (.slice A' (xs.length + m) c') w' ∧ OwnV w' base e (.slice A' (xs.length + m) c') (xs ++ news) ∧ Grow w w' v (.slice A' (xs.length + m) c') := by
  obtain ⟨i, hi, hz0, hz1, hz2⟩ := info_parts hinfo
  subst hm
  have hsmall : xs.length + news.length ≤ 9223372036854775807 := by simp only [maxLen] at h63; omega
  have hsrc : Src P i.size t (.slice (some ad) news.length c) news.length news w := Src.ofSlice w ht ad _ c news (by rw [hz1]; simp) hc h1
  have grown : ∀ (A0 : Option Addr) (old : Nat), old < xs.length + news.length → (Builtin.firstCells i.size xs.length (.slice A0 xs.length old)).run P w.drew = .ok xs.toArray w.drew →
      ∃ A' c' w', (Builtin.append_ #[t, t] ty #[.slice A0 xs.length old, .slice (some ad) news.length c]).run P w = .ok (.slice A' (xs.length + news.length) c') w' ∧ OwnV w' base e (.slice A' (xs.length + news.length) c') (xs ++ news) ∧ Grow w w' (.slice A0 xs.length old) (.slice A' (xs.length + news.length) c') := by
    intro A0 old ho hf
    have hr' := run_append_grow_src (P := P) w t t ty e i z ht hi hz0 A0 xs.length old xs hf _ news.length news hsrc ho (by omega) (growslice_fits_wide ho (by rw [hz2]; exact hbytes.le))
    have hge := grownCap_ge w (xs.length + news.length) old e
    have hcm := grownCap_le_maxLen w (xs.length + news.length) old e h63
    refine ⟨_, _, _, hr', ⟨by simp, .inr ⟨w.heap.size, _, _, by rw [List.length_append], hbase, heap_alloc_new w.drew _, by rw [List.length_append]; exact hge, hcm, ?_, ?_⟩⟩, ⟨⟨rfl, rfl, rfl, by simp, fun k hk _ => heap_alloc_old w.drew _ hk⟩, .inr ⟨w.heap.size, rfl, Nat.le_refl _⟩⟩⟩
    · rw [Array.size_append, List.size_toArray, size_zeroCells, List.length_append, hz]
      omega
    · rw [Array.toList_append, Nat.mul_one]
      exact List.take_left
  rcases hown.2 with ⟨rfl, hn⟩ | ⟨g, cap, cur, rfl, hg, hh, hle, hcm, hsz, htk⟩
  · obtain rfl : xs = [] := List.eq_nil_of_length_eq_zero hn
    refine grown none 0 (by simp; omega) ?_
    simp [Builtin.firstCells]
  · by_cases hroom : xs.length + news.length ≤ cap
    · have hr := run_append_room (P := P) w t ty e i ht hi g xs.length cap cur hh ad news.length c news (by rw [hz1]; simp) hc h1 hroom (by rw [hz1]; omega)
      rw [hz1, Nat.mul_one] at hr
      rw [Nat.mul_one] at htk
      refine ⟨_, _, _, hr, ⟨by simp, .inr ⟨g, cap, _, by rw [List.length_append], hg, setRow_heap w g cur _ e _ hh, by rw [List.length_append]; exact hroom, hcm, ?_, ?_⟩⟩, ⟨⟨rfl, rfl, rfl, by simp, fun k _ hk => setRow_other w g k _ (fun e => hk (by rw [e]; rfl))⟩, .inl rfl⟩⟩
      · simp only [List.size_toArray, List.length_append, List.length_take, List.length_drop, Array.length_toList]
        omega
      · rw [htk, Nat.mul_one]
        exact List.take_left
    · refine grown _ cap (by omega) ?_
      rw [hz1]
      exact run_firstCells_some w.drew 1 xs.length ⟨g, 0, none⟩ xs.length cap xs (by simp) (fun j u hu => World.ownsRow.cells hown (g := g) rfl j u hu)

theorem wpList_app1w (w : World) {ops : Array Oper} {rest : List Oper} {o : Oper} {a : Act} {Q : Exit → Act → World → Prop} (hgd : o.guard = none) (s x : Operand) (t : TypeId)
    (ho : o.op = .call { callee := .builtin .append, args := #[s, x], argTypes := #[t, t] })
    (base : Nat) (e : TypeId) (k : IntKind) (bytes : Nat) (ht : P.underlying t = some (.slice e)) (hinfo : (P.info? e).map (fun i => (i.zero, i.size, i.bytes)) = some (some (.int k 0), 1, bytes))
    {v : Value} {xs : List Int} (y : Int) (hown : Own w base e k v xs) (hs : a.eval s = v) (hx : a.eval x = .slice (some ⟨w.heap.size, 0, none⟩) 1 1)
    (hbytes : Fits (xs.length + 1) bytes) (h63 : xs.length + 1 ≤ maxLen) (hbase : base ≤ w.heap.size)
    (h : ∀ A' c' acc w', Hid (acc = xs ++ [y]) → Own w' base e k (.slice A' acc.length c') acc → Grow (w.alloc (.cells #[.int k y] e)) w' v (.slice A' acc.length c') → wpList P ops Q rest (a.put o.dst (.slice A' acc.length c')) w') :
    wpList P ops Q (o :: rest) a (w.alloc (.cells #[.int k y] e)) := by
  refine wpList_plain hgd fun K hK => ?_
  obtain ⟨A', c', w', hrun, h2, h3⟩ := run_appVw (P := P) (w.alloc (.cells #[.int k y] e)) base t o.type e (.int k 0) bytes ht hinfo rfl v (xs.map (Value.int k)) (hown.v.alloc _) ⟨w.heap.size, 0, none⟩ 1 1 [.int k y] rfl (by omega)
    (fun j u hu => by
      match j, hu with
      | 0, hu =>
        simp at hu; subst hu
        simp [Addr.add]) (fun u hu => by simp at hu; subst hu; rfl) (by rw [List.length_map]; exact hbytes) (by simpa using h63) (by simp; omega)
  unfold Oper.wp execOp
  simp only [ho, resolve, invoke, builtin, Sem.run_bind, Sem.run_pure, Result.andThen_ok, List.map_toArray, List.map_cons, List.map_nil, hs, hx, hrun]
  have e1 : xs.map (Value.int k) ++ [Value.int k y] = (xs ++ [y]).map (Value.int k) := by simp
  have e2 : (xs.map (Value.int k)).length + 1 = (xs ++ [y]).length := by simp
  rw [e1, e2] at h2
  rw [e2] at h3 ⊢
  exact hK _ _ (h A' c' (xs ++ [y]) w' rfl h2.ints h3)

theorem step_app1w {w : World} {ops : Array Oper} {o : Oper} {a : Act} {K : Act → World → Prop} {Q : Exit → Act → World → Prop} {E : Prop} (hgd : o.guard = none) (s x : Operand) (t : TypeId)
    (ho : o.op = .call { callee := .builtin .append, args := #[s, x], argTypes := #[t, t] })
    (base : Nat) (e : TypeId) (k : IntKind) (bytes : Nat) (ht : P.underlying t = some (.slice e)) (hinfo : (P.info? e).map (fun i => (i.zero, i.size, i.bytes)) = some (some (.int k 0), 1, bytes))
    {v : Value} {xs : List Int} (y : Int) (hown : Own w base e k v xs) (hs : a.eval s = v) (hx : a.eval x = .slice (some ⟨w.heap.size, 0, none⟩) 1 1)
    (hbytes : Fits (xs.length + 1) bytes) (h63 : xs.length + 1 ≤ maxLen) (hbase : base ≤ w.heap.size)
    (h : ∀ A' c' acc w', Hid (acc = xs ++ [y]) → Own w' base e k (.slice A' acc.length c') acc → Grow (w.alloc (.cells #[.int k y] e)) w' v (.slice A' acc.length c') → K (a.put o.dst (.slice A' acc.length c')) w') :
    if Region.wanted o (yielded ops a.tmps) = true then Oper.wp P o a (w.alloc (.cells #[.int k y] e)).drew K Q else E := by
  have hw : Region.wanted o (yielded ops a.tmps) = true := by simp [Region.wanted, hgd]
  rw [if_pos hw]
  have hown' : OwnV (w.alloc (.cells #[.int k y] e)).drew base e v (xs.map (Value.int k)) := hown.v.alloc _
  obtain ⟨A', c', w', hrun, h2, h3⟩ := run_appVw (P := P) (w.alloc (.cells #[.int k y] e)).drew base t o.type e (.int k 0) bytes ht hinfo rfl v (xs.map (Value.int k)) hown' ⟨w.heap.size, 0, none⟩ 1 1 [.int k y] rfl (by omega)
    (fun j u hu => by
      match j, hu with
      | 0, hu =>
        simp at hu; subst hu
        simp [Addr.add]) (fun u hu => by simp at hu; subst hu; rfl) (by rw [List.length_map]; exact hbytes) (by simpa using h63) (by
          show base ≤ (w.alloc (.cells #[.int k y] e)).heap.size
          simp; omega)
  unfold Oper.wp execOp
  simp only [ho, resolve, invoke, builtin, Sem.run_bind, Sem.run_pure, Result.andThen_ok, List.map_toArray, List.map_cons, List.map_nil, hs, hx, hrun]
  have e1 : xs.map (Value.int k) ++ [Value.int k y] = (xs ++ [y]).map (Value.int k) := by simp
  have e2 : (xs.map (Value.int k)).length + 1 = (xs ++ [y]).length := by simp
  rw [e1, e2] at h2
  rw [e2] at h3 ⊢
  exact h A' c' (xs ++ [y]) w' rfl h2.ints ⟨⟨h3.by_.os, h3.by_.tape, h3.by_.output, h3.by_.size, h3.by_.block⟩, h3.lies⟩
end
end Go.Proofs.Ytlbdhfpakajdaaa
