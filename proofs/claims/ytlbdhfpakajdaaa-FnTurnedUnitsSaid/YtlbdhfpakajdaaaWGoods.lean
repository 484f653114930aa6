/- Small facts on the code points of a list. -/
import Derived.Test.YtlbdhfpakajdaaaMaps
import Derived.Test.YtlbdhfpakajdaaaPlainOrder
set_option linter.unusedVariables false
namespace Go.Proofs.Ytlbdhfpakajdaaa
open Go.RowKit P
theorem filter_le (xs : List Int) : (xs.filter good).length ≤ xs.length := List.length_filter_le _ _
theorem I32.good {xs ys : List Int} (h : I32 xs) (e : ys = xs.filter P.good) : I32 ys := fun x hx => h x (by rw [e] at hx; exact (List.mem_filter.1 hx).1)
end Go.Proofs.Ytlbdhfpakajdaaa
