/- What the row of FnJpStringEnd lists, as the walks ask for it. Condition: the listed variable reads as the row says. -/
import Derived.Test.YtifcmhekpbfboaaDoorRows
import Derived.Test.YtifcmhekpbfboaaDoorJsGl
namespace Go.Proofs.YtifcmhekpbfboaaDoor
open Go.ChangeShapes Go.WideShapes Go.ChangeAt Go.RowKit
theorem GLCfg.of_laid {W : World} (h : laidMetH Tryd.prog Rows.fnJpStringEndRow.laid W) : GLCfg W := by
  rw [MakeChecks.laidMetH_plain _ _ _ (by kernel_rfl)] at h
  exact GLCfg.of_reads (Lib.laidMet.reads h (List.mem_cons_self ..))
end Go.Proofs.YtifcmhekpbfboaaDoor
