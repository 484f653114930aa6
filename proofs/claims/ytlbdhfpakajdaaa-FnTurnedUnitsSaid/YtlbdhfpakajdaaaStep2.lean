/- The law of append at a step of a region that draws its order, in any world. -/
import Derived.Test.YtlbdhfpakajdaaaStep
import Derived.Deep.Cut
import Derived.Deep.CutRange
set_option linter.unusedVariables false
namespace Go.Proofs.Ytlbdhfpakajdaaa
open Go.RowKit

theorem Rd.one (w : World) (k : IntKind) (e : TypeId) (y : Int) : Rd (w.alloc (.cells #[.int k y] e)) k (some ⟨w.heap.size, 0, none⟩) [y] := fun _ =>
  ⟨w.heap.size, 0, rfl, by simp, fun j x hx => by
    match j, hx with
    | 0, hx =>
      simp at hx; subst hx
      simp⟩
theorem below_drew {w w' : World} (h : Below w.drew.heap.size w.drew w') : Below w.heap.size w w' := ⟨h.os, h.tape, h.output, h.size, h.block⟩
theorem below_alloc_drew {w w' : World} {o : Obj} (h : Below (w.alloc o).drew.heap.size (w.alloc o).drew w') : Below w.heap.size w w' :=
  bnext ((Below.refl _ _).alloc (Nat.le_refl _) o) (below_drew h)

theorem copied_q {A : Option Addr} {bs : List Int} {c n : Nat} {w : World} (hb : Rd w .u8 A bs) (hn : bs.length = n) (hl : bs.length ≤ 140737488355328) :
    Calls Try.prog 13 #[.slice A n c] w (Made w 5 .u8 bs) := by
  subst hn; exact copied_any hb hl
theorem step_appRd {P : Program} {W : World} {ops : Array Oper} {o : Oper} {a : Act} {K : Act → World → Prop} {Q : Exit → Act → World → Prop} {E : Prop} (hgd : o.guard = none) (s x : Operand) (t : TypeId)
    (ho : o.op = .call { callee := .builtin .append, args := #[s, x], argTypes := #[t, t] })
    (base : Nat) (e : TypeId) (k : IntKind) (bytes : Nat) (ht : P.underlying t = some (.slice e)) (hinfo : (P.info? e).map (fun i => (i.zero, i.size, i.bytes)) = some (some (.int k 0), 1, bytes))
    {v : Value} {xs : List Int} {A : Option Addr} (c : Nat) {ys : List Int} (hr : Rd W k A ys) (n : Nat) (hn : ys.length = n) (hown : Own W base e k v xs) (hs : a.eval s = v) (hx : a.eval x = .slice A n c)
    (hbytes : (xs.length + ys.length) * bytes ≤ 140737488355328) (h63 : xs.length + ys.length ≤ maxLen) (hbase : base ≤ W.heap.size)
    (h : ∀ A' c' acc w', Hid (acc = xs ++ ys) → Own w' base e k (.slice A' acc.length c') acc → Grow W w' v (.slice A' acc.length c') → K (a.put o.dst (.slice A' acc.length c')) w') :
    if Region.wanted o (yielded ops a.tmps) = true then Oper.wp P o a W K Q else E := by
  subst hn
  have hw : Region.wanted o (yielded ops a.tmps) = true := by simp [Region.wanted, hgd]
  rw [if_pos hw]
  obtain ⟨A', c', w', hrun, h2, h3⟩ := run_appV (P := P) W base t o.type e (.int k 0) bytes ht hinfo rfl v (xs.map (Value.int k)) hown.v A ys.length c (ys.map (Value.int k)) (by simp)
    (fun h0 => by
      obtain ⟨b, off, rfl, _, hc⟩ := hr h0
      refine ⟨_, rfl, fun j u hu => ?_⟩
      rw [show (⟨b, off, none⟩ : Addr).add j = ⟨b, off + j, none⟩ by unfold Addr.add; split <;> simp_all]
      simp only [List.getElem?_map, Option.map_eq_some_iff] at hu
      obtain ⟨y, hy, rfl⟩ := hu
      exact hc j y hy)
    (fun u hu => by obtain ⟨y, _, rfl⟩ := List.mem_map.1 hu; rfl) (by simpa using hbytes) (by simpa using h63) hbase
  unfold Oper.wp execOp
  simp only [ho, resolve, invoke, builtin, Sem.run_bind, Sem.run_pure, Result.andThen_ok, List.map_toArray, List.map_cons, List.map_nil, hs, hx, hrun]
  have e1 : xs.map (Value.int k) ++ ys.map (Value.int k) = (xs ++ ys).map (Value.int k) := by simp
  have e2 : (xs.map (Value.int k)).length + ys.length = (xs ++ ys).length := by simp
  rw [e1, e2] at h2
  rw [e2] at h3 ⊢
  exact h A' c' (xs ++ ys) w' rfl h2.ints h3
end Go.Proofs.Ytlbdhfpakajdaaa
