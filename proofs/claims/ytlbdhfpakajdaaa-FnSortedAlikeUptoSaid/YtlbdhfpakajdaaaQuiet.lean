/- Quiet calls inside regions that draw; parts of slices to the end. -/
import Derived.Test.YtlbdhfpakajdaaaSlices
set_option linter.unusedVariables false
namespace Go.Proofs.Ytlbdhfpakajdaaa
open Go.RowKit P

theorem quiet_at {P : Program} {f : FuncId} {args : Array Value} {w : World} {n : Nat} {v : Value}
    (h : Calls P f args (w.drewN n) fun e w' => e = .returned v ∧ ∃ m, w' = (w.drewN n).drewN m) :
    Calls P f args (w.drewN n) fun e w'' => e = .returned v ∧ ∃ m, w'' = w.drewN m :=
  h.mono fun _ _ ⟨he, m, hm⟩ => ⟨he, n + m, by rw [hm, World.drewN_drewN]⟩

theorem run_cut_l {P : Program} {w : World} (t e : TypeId) (ht : P.underlying t = some (.slice e)) (i : TypeInfo) (hi : P.info? e = some i) (hs : i.size = 1) (A : Option Addr) (len cap lo : Nat) (z : Int) (hz : z = (lo : Int)) (h1 : lo ≤ len) :
    (Instr.slice t (.slice A len cap) (some (.int .i64 z)) none none).run P w = .ok (.slice (cutA A cap lo) (len - lo) (cap - lo)) w := by
  subst hz
  have hel : P.elem t = e := by simp [Program.elem, ht]
  have hr := run_slice_l (P := P) (w := w) t A len cap (by rw [hel]; exact ht) .i64 (lo : Int) (by omega) (by omega)
  rw [hr, hel]
  simp [sizeOf, typeInfo, hi, hs, sliced, cutA]
theorem run_cut_h {P : Program} {w : World} (t e : TypeId) (ht : P.underlying t = some (.slice e)) (i : TypeInfo) (hi : P.info? e = some i) (A : Option Addr) (len cap n : Nat) (z : Int) (hz : z = (n : Int)) (h1 : n ≤ cap) :
    (Instr.slice t (.slice A len cap) none (some (.int .i64 z)) none).run P w = .ok (.slice A n cap) w := by
  subst hz
  have hel : P.elem t = e := by simp [Program.elem, ht]
  have hr := run_slice_h (P := P) (w := w) t A len cap (by rw [hel]; exact ht) .i64 (n : Int) (by omega) (by omega)
  rw [hr, hel]
  by_cases h0 : cap = 0
  · simp [sizeOf, typeInfo, hi, sliced, h0]
  · cases A <;> simp [sizeOf, typeInfo, hi, sliced, h0, Addr.add]
end Go.Proofs.Ytlbdhfpakajdaaa
