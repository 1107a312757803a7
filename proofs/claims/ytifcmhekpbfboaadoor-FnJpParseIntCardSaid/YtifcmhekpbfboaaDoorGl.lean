/- What the two listed errors of jsonparser hold at the call's begin, and that it stays so below. Condition: the listed variables read as the row says. -/
import Derived.Test.YtifcmhekpbfboaaDoorRows
import Derived.ProofKit
import Derived.LaidMore
import Derived.LaidLaws
import Derived.Stop.Joined
import Derived.Stop.LaidErr
import Derived.Below
namespace Go.Proofs.YtifcmhekpbfboaaDoor
open Go.ChangeShapes Go.WideShapes Go.ChangeAt Go.RowKit

/-- Both variables hold errors. -/
def GLJpi (w : World) : Prop := (∃ a, w.cell? ⟨0, 0, none⟩ = some (.iface 84 a)) ∧ ∃ a, w.cell? ⟨1, 0, none⟩ = some (.iface 84 a)

theorem block_lt {w : World} {p : Addr} {v : Value} (h : w.cell? p = some v) : p.block < w.heap.size := World.block_lt_of_cell? w _ h

theorem GLJpi.keep {w w' : World} (h : GLJpi w) (hb : Below w.heap.size w w') : GLJpi w' := by
  obtain ⟨⟨a, ha⟩, b, hb'⟩ := h
  exact ⟨⟨a, (hb.cell (block_lt ha)).trans ha⟩, b, (hb.cell (block_lt hb')).trans hb'⟩

theorem gOver : Tryd.prog.globalNamed "pub-tetrapla/pub/jsonparser.OverflowIntegerError" = some 0 := by kernel_rfl
theorem gMal : Tryd.prog.globalNamed "pub-tetrapla/pub/jsonparser.MalformedValueError" = some 1 := by kernel_rfl
theorem tOver : (Tryd.prog.globals[0]?).map (·.type) = some 40 := by kernel_rfl
theorem tMal : (Tryd.prog.globals[1]?).map (·.type) = some 40 := by kernel_rfl
theorem cells9 : Tryd.prog.cellsOf 9 = 1 := by kernel_rfl
theorem cellsS : Tryd.prog.cellsOf 103 = 1 := by kernel_rfl
theorem star : "*" ++ "errors.errorString" = "*errors.errorString" := by decide
theorem rowE (u : TypeId) (h : Tryd.prog.typeName? 3 u = some "*errors.errorString") : u = 84 :=
  typeName_ptr_named (nm := "errors.errorString") (by rw [star]; kernel_rfl) (by kernel_rfl) (by decide) u (by rw [star]; exact h)

theorem GLJpi.of_laid {W : World} (h : laidMetH Tryd.prog Rows.fnJpParseIntRow.laid W) : GLJpi W := by
  rw [MakeChecks.laidMetH_plain _ _ _ (by kernel_rfl)] at h
  obtain ⟨a1, s1, hv1, -, -, -⟩ := laid_sentinel h gMal tMal Tryd.underlying40 rowE Tryd.underlying84 Tryd.underlying103 rfl rfl Tryd.underlying9 cellsS cells9
  obtain ⟨a0, s0, hv0, -, -, -⟩ := laid_sentinel h.tail gOver tOver Tryd.underlying40 rowE Tryd.underlying84 Tryd.underlying103 rfl rfl Tryd.underlying9 cellsS cells9
  exact ⟨⟨_, by simpa using World.var?_cell gOver hv0 0⟩, _, by simpa using World.var?_cell gMal hv1 0⟩

end Go.Proofs.YtifcmhekpbfboaaDoor
