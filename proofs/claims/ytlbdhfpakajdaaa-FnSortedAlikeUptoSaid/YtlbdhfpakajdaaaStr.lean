/- The string of bytes that are read out of a slice. -/
import Derived.Test.YtlbdhfpakajdaaaPlain
import Derived.Test.YtlbdhfpakajdaaaMem
import Derived.Laws.BytesArg
set_option linter.unusedVariables false
namespace Go.Proofs.Ytlbdhfpakajdaaa
open Go.RowKit P

theorem run_str {A : Option Addr} {l : List Int} {c n : Nat} {w : World} (hr : Rd w .u8 A l) (hn : l.length = n) :
    (convert 26 9 (.slice A n c)).run Try.prog w = .ok (.string (strOfNums l)) w := by
  subst hn
  by_cases h0 : 0 < l.length
  · obtain ⟨b, off, rfl, hb, hc⟩ := hr h0
    exact run_convert_bytes_arg (P := Try.prog) w 26 5 Try.underlying26 Try.underlying5 b off l.length c l rfl (fun i hi => by
      rw [hc i l[i] (List.getElem?_eq_getElem hi)]; simp [List.getD, List.getElem?_eq_getElem hi]) 9 Try.underlying9
  · obtain rfl : l = [] := List.eq_nil_of_length_eq_zero (by omega)
    rw [run_convert_bytes_string w 26 9 5 _ _ c Try.underlying26 Try.underlying5 Try.underlying9]
    cases A with
    | none => simp [Conv.bytesToString]; rfl
    | some a => simp [Conv.bytesToString, loadCells]; rfl
end Go.Proofs.Ytlbdhfpakajdaaa
