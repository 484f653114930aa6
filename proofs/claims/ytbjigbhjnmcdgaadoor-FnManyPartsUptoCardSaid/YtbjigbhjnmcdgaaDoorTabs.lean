/- The tables of unicode/utf8, out of a row's list of what lies where. -/
import Derived.Test.YtbjigbhjnmcdgaaDoorDec
import Derived.Test.YtbjigbhjnmcdgaaDoorRows
import Derived.Lib.LaidU8
set_option linter.unusedVariables false
namespace Go.Proofs.YtbjigbhjnmcdgaaDoor
open Go.RowKit P

theorem gFirst : Tryd.prog.globalNamed "unicode/utf8.first" = some 0 := by kernel_rfl
theorem gAcc : Tryd.prog.globalNamed "unicode/utf8.acceptRanges" = some 1 := by kernel_rfl
theorem gFirstT : (Tryd.prog.globals[0]?).map (·.type) = some 53 := by kernel_rfl
theorem gAccT : (Tryd.prog.globals[1]?).map (·.type) = some 56 := by kernel_rfl
theorem one8 : Tryd.prog.cellsOf 5 = 1 := by kernel_rfl
theorem cellsFirst : Tryd.prog.cellsOf 53 = 256 := by kernel_rfl
theorem cellsRange : Tryd.prog.cellsOf 55 = 2 := by kernel_rfl
theorem first_eq : Rows.laid_unicode_utf8_first = Lib.firstData := by kernel_rfl
theorem acc_eq : (Rows.laid_unicode_utf8_acceptRanges : DataW Unit) = Lib.acceptData := by kernel_rfl

theorem tabs_of {w : World} (h : laidMetH Tryd.prog [("unicode/utf8.acceptRanges", Rows.laid_unicode_utf8_acceptRanges), ("unicode/utf8.first", Rows.laid_unicode_utf8_first)] w) : Tabs w := by
  rw [first_eq, acc_eq] at h
  have h' : laidMet Tryd.prog [("unicode/utf8.acceptRanges", Lib.acceptData), ("unicode/utf8.first", Lib.firstData)] w := h
  have hF := Lib.laidMet.reads h' (n := "unicode/utf8.first") (d := Lib.firstData) (by simp)
  have hA := Lib.laidMet.reads h' (n := "unicode/utf8.acceptRanges") (d := Lib.acceptData) (by simp)
  clear h h'
  refine ⟨fun c hc => ?_, fun i hi => ?_⟩
  · obtain ⟨g, t, cs, fuel, p, hg, hty, hvar, hd⟩ := hF
    cases gFirst.symm.trans hg
    cases gFirstT.symm.trans hty
    have e := Lib.cells_of_tab Tryd.underlying53 Tryd.underlying5 one8 cellsFirst hd
    rw [World.var?_cell hg hvar c, ← Array.getElem?_toList, e]
    simp [Lib.firstTab, hc]
  · obtain ⟨g, t, cs, fuel, p, hg, hty, hvar, hd⟩ := hA
    cases gAcc.symm.trans hg
    cases gAccT.symm.trans hty
    obtain ⟨f', d, q, hdi, he⟩ := Lib.array_elem Tryd.underlying56 hd i hi
    simp only [List.getElem?_map, List.getElem?_range hi, Option.map_some, Option.some.injEq] at hdi
    subst hdi
    rw [cellsRange] at he
    have e := Lib.ints_of_struct Tryd.underlying55 (fun j f hj => by
      match j, hj with
      | 0, hj => simp at hj; subst hj; exact ⟨Tryd.underlying5, rfl, one8⟩
      | 1, hj => simp at hj; subst hj; exact ⟨Tryd.underlying5, rfl, one8⟩
      | j + 2, hj => simp at hj) (by rw [cellsRange]; rfl) he
    have e0 := congrArg (·[0]?) e
    have e1 := congrArg (·[1]?) e
    simp only [List.getElem?_take, List.getElem?_drop] at e0 e1
    exact ⟨by rw [World.var?_cell hg hvar (2 * i), ← Array.getElem?_toList]; simpa [Nat.mul_comm] using e0,
      by rw [World.var?_cell hg hvar (2 * i + 1), ← Array.getElem?_toList]; simpa [Nat.mul_comm] using e1⟩
end Go.Proofs.YtbjigbhjnmcdgaaDoor
