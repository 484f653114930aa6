/- The law of append of one integer at a step of a region that draws its order. -/
import Derived.Test.YtlbdhfpakajdaaaBytes
import Derived.Deep.RegionLaw
import Derived.Deep.RegionWith
import Derived.BigRegion
set_option linter.unusedVariables false
namespace Go.Proofs.Ytlbdhfpakajdaaa
open Go.RowKit

theorem step_app1 {P : Program} {w : World} {ops : Array Oper} {o : Oper} {a : Act} {K : Act → World → Prop} {Q : Exit → Act → World → Prop} {E : Prop} (hgd : o.guard = none) (s x : Operand) (t : TypeId)
    (ho : o.op = .call { callee := .builtin .append, args := #[s, x], argTypes := #[t, t] })
    (base : Nat) (e : TypeId) (k : IntKind) (bytes : Nat) (ht : P.underlying t = some (.slice e)) (hinfo : (P.info? e).map (fun i => (i.zero, i.size, i.bytes)) = some (some (.int k 0), 1, bytes))
    {v : Value} {xs : List Int} (y : Int) (hown : Own w base e k v xs) (hs : a.eval s = v) (hx : a.eval x = .slice (some ⟨w.heap.size, 0, none⟩) 1 1)
    (hbytes : (xs.length + 1) * bytes ≤ 140737488355328) (h63 : xs.length + 1 ≤ maxLen) (hbase : base ≤ w.heap.size)
    (h : ∀ A' c' acc w', Hid (acc = xs ++ [y]) → Own w' base e k (.slice A' acc.length c') acc → Grow (w.alloc (.cells #[.int k y] e)) w' v (.slice A' acc.length c') → K (a.put o.dst (.slice A' acc.length c')) w') :
    if Region.wanted o (yielded ops a.tmps) = true then Oper.wp P o a (w.alloc (.cells #[.int k y] e)).drew K Q else E := by
  have hw : Region.wanted o (yielded ops a.tmps) = true := by simp [Region.wanted, hgd]
  rw [if_pos hw]
  have hown' : OwnV (w.alloc (.cells #[.int k y] e)).drew base e v (xs.map (Value.int k)) := hown.v.alloc _
  obtain ⟨A', c', w', hrun, h2, h3⟩ := run_appV (P := P) (w.alloc (.cells #[.int k y] e)).drew base t o.type e (.int k 0) bytes ht hinfo rfl v (xs.map (Value.int k)) hown' (some ⟨w.heap.size, 0, none⟩) 1 1 [.int k y] rfl
    (fun _ => ⟨_, rfl, fun j u hu => by
      match j, hu with
      | 0, hu =>
        simp at hu; subst hu
        simp [Addr.add]⟩) (fun u hu => by simp at hu; subst hu; rfl) (by simpa using hbytes) (by simpa using h63) (by
          show base ≤ (w.alloc (.cells #[.int k y] e)).heap.size
          simp; omega)
  unfold Oper.wp execOp
  simp only [ho, resolve, invoke, builtin, Sem.run_bind, Sem.run_pure, Result.andThen_ok, List.map_toArray, List.map_cons, List.map_nil, hs, hx, hrun]
  have e1 : xs.map (Value.int k) ++ [Value.int k y] = (xs ++ [y]).map (Value.int k) := by simp
  have e2 : (xs.map (Value.int k)).length + 1 = (xs ++ [y]).length := by simp
  rw [e1, e2] at h2
  rw [e2] at h3 ⊢
  exact h A' c' (xs ++ [y]) w' rfl h2.ints ⟨⟨h3.by_.os, h3.by_.tape, h3.by_.output, h3.by_.size, h3.by_.block⟩, h3.lies⟩
end Go.Proofs.Ytlbdhfpakajdaaa
