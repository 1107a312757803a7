/- What the row of FnMtLimitMore lists, as the walks ask for it: unicode/utf8's two tables. Condition: the listed variables read as the row says. -/
import Derived.Test.YtifcmhekpbfboaaDoorRows
import Derived.Test.YtifcmhekpbfboaaDoorU8Gl
namespace Go.Proofs.YtifcmhekpbfboaaDoor
open Go.ChangeShapes Go.WideShapes Go.ChangeAt Go.RowKit
theorem accept_same : (Rows.laid_unicode_utf8_acceptRanges : DataW Unit) = Lib.acceptData := by kernel_rfl
theorem first_same : Rows.laid_unicode_utf8_first = Lib.firstData := by kernel_rfl
theorem GLU8.of_laid {W : World} (h : laidMetH Tryd.prog Rows.fnMtLimitMoreRow.laid W) : GLU8 W := by
  rw [MakeChecks.laidMetH_plain _ _ _ (by kernel_rfl)] at h
  refine GLU8.of_reads ?_ ?_
  · rw [← first_same]
    exact Lib.laidMet.reads h (List.mem_cons_of_mem _ (List.mem_cons_self ..))
  · rw [← accept_same]
    exact Lib.laidMet.reads h (List.mem_cons_self ..)
end Go.Proofs.YtifcmhekpbfboaaDoor
