/- What the row of FnFjCheckElements lists, as the walks ask for it: strconv's two errors. Condition: the listed variables read as the row says. -/
import Derived.Test.YtnidncohhinjbaaDoorRows
import Derived.Test.YtnidncohhinjbaaDoorFfU
import Derived.ProofKit
import Derived.LaidMore
import Derived.LaidLaws
import Derived.Stop.Joined
import Derived.Stop.LaidErr
namespace Go.Proofs.YtnidncohhinjbaaDoor
open Go.ChangeShapes Go.WideShapes Go.ChangeAt Go.RowKit
theorem gSyn : Tryd.prog.globalNamed "strconv.ErrSyntax" = some 8 := by kernel_rfl
theorem gRan : Tryd.prog.globalNamed "strconv.ErrRange" = some 9 := by kernel_rfl
theorem tSyn : (Tryd.prog.globals[8]?).map (·.type) = some 48 := by kernel_rfl
theorem tRan : (Tryd.prog.globals[9]?).map (·.type) = some 48 := by kernel_rfl
theorem cellsStr : Tryd.prog.cellsOf 9 = 1 := by kernel_rfl
theorem star : "*" ++ "errors.errorString" = "*errors.errorString" := by decide
theorem cellsES : Tryd.prog.cellsOf 95 = 1 := by kernel_rfl
theorem rowE (u : TypeId) (h : Tryd.prog.typeName? 3 u = some "*errors.errorString") : u = 93 :=
  typeName_ptr_named (nm := "errors.errorString") (by rw [star]; kernel_rfl) (by kernel_rfl) (by decide) u (by rw [star]; exact h)

theorem GLErr.of_laid {W : World} (h : laidMetH Tryd.prog Rows.fnFjCheckElementsRow.laid W) : GLErr W := by
  rw [MakeChecks.laidMetH_plain _ _ _ (by kernel_rfl)] at h
  have h3 := h.tail.tail.tail
  obtain ⟨a1, s1, hv1, -, -, -⟩ := laid_sentinel h3 gRan tRan Tryd.underlying48 rowE Tryd.underlying93 Tryd.underlying95 rfl rfl Tryd.underlying9 cellsES cellsStr
  obtain ⟨a0, s0, hv0, -, -, -⟩ := laid_sentinel h3.tail gSyn tSyn Tryd.underlying48 rowE Tryd.underlying93 Tryd.underlying95 rfl rfl Tryd.underlying9 cellsES cellsStr
  exact ⟨⟨_, _, by simpa using World.var?_cell gSyn hv0 0⟩, _, _, by simpa using World.var?_cell gRan hv1 0⟩
end Go.Proofs.YtnidncohhinjbaaDoor
