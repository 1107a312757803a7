/- What the row of FnGjSquashAt lists, as the walk asks for it: gjson's table of marks. Condition: the listed variable reads as the row says. -/
import Derived.Test.YtifcmhekpbfboaaDoorRows
import Derived.Test.YtifcmhekpbfboaaDoorSqPlain
import Derived.ProofKit
import Derived.LaidMore
import Derived.LaidLaws
import Derived.Stop.Joined
import Derived.Lib.LaidU8
import Derived.Lib.LaidTab
namespace Go.Proofs.YtifcmhekpbfboaaDoor
open Go.ChangeShapes Go.WideShapes Go.ChangeAt Go.RowKit
def vtab : List Int := (List.range 256).map fun n => (vch (UInt8.ofNat n) : Int)
theorem vch_same : (Rows.laid_pub_tetrapla_pub_gjson_vchars : DataW Unit) = Lib.tabData .u8 vtab := by kernel_rfl
theorem GLVch.of_laid {W : World} (h : laidMetH Tryd.prog Rows.fnGjSquashAtRow.laid W) : GLVch W := by
  rw [MakeChecks.laidMetH_plain _ _ _ (by kernel_rfl)] at h
  have hr := Lib.laidMet.reads h (List.mem_cons_self ..)
  rw [vch_same] at hr
  obtain ⟨g, t, cs, fuel, p, hg, hty, hvar, hd⟩ := hr
  obtain rfl := Option.some.inj ((show Tryd.prog.globalNamed "pub-tetrapla/pub/gjson.vchars" = some 3 by kernel_rfl).symm.trans hg)
  obtain rfl := Option.some.inj ((show (Tryd.prog.globals[3]?).map (·.type) = some 67 by kernel_rfl).symm.trans hty)
  have hcs := Lib.cells_of_tab Tryd.underlying67 Tryd.underlying5 (by kernel_rfl) (by kernel_rfl) hd
  intro c
  have h1 := World.var?_cell hg hvar c.toNat
  rw [h1, ← Array.getElem?_toList, hcs]
  have hc : c.toNat < 256 := UInt8.toNat_lt c
  simp [vtab, hc]
end Go.Proofs.YtifcmhekpbfboaaDoor
