/- What jsonparser's listed configuration holds at the call's begin, and that it stays so below. Condition: the listed variable reads as the row says. -/
import Derived.Test.YtifcmhekpbfboaaDoorProg
import Derived.ProofKit
import Derived.LaidMore
import Derived.LaidLaws
import Derived.Stop.Joined
import Derived.Stop.LaidErr
import Derived.Lib.LaidU8
import Derived.Below
namespace Go.Proofs.YtifcmhekpbfboaaDoor
open Go.ChangeShapes Go.WideShapes Go.ChangeAt Go.RowKit

/-- The configuration's three cells can be read. -/
def GLCfg (w : World) : Prop := ∃ a b c, w.cell? ⟨2, 0, none⟩ = some a ∧ w.cell? ⟨2, 1, none⟩ = some b ∧ w.cell? ⟨2, 2, none⟩ = some c

theorem cfg_lt {w : World} {p : Addr} {v : Value} (h : w.cell? p = some v) : p.block < w.heap.size := World.block_lt_of_cell? w _ h

theorem GLCfg.keep {w w' : World} (h : GLCfg w) (hb : Below w.heap.size w w') : GLCfg w' := by
  obtain ⟨a, b, c, h0, h1, h2⟩ := h
  exact ⟨a, b, c, (hb.cell (cfg_lt h0)).trans h0, (hb.cell (cfg_lt h1)).trans h1, (hb.cell (cfg_lt h2)).trans h2⟩

theorem gCfg : Tryd.prog.globalNamed "pub-tetrapla/pub/jsonparser.DefaultConfig" = some 2 := by kernel_rfl
theorem tCfg : (Tryd.prog.globals[2]?).map (·.type) = some 64 := by kernel_rfl
theorem cellsCfg : Tryd.prog.cellsOf 64 = 3 := by kernel_rfl

theorem GLCfg.of_reads {w : World} {d : DataW Unit} (h : Lib.VarReads Tryd.prog w "pub-tetrapla/pub/jsonparser.DefaultConfig" d) : GLCfg w := by
  obtain ⟨g, t, cs, fuel, p, hg, ht, hv, hd⟩ := h
  obtain rfl := Option.some.inj (gCfg.symm.trans hg)
  obtain rfl := Option.some.inj (tCfg.symm.trans ht)
  obtain ⟨xs, n, -, -, hl, -⟩ := DataW.trod_struct Tryd.underlying64 hd
  rw [cellsCfg] at hl
  have hs : cs.size = 3 := by simpa using hl
  have at_ : ∀ i (h : i < 3), w.cell? ⟨2, i, none⟩ = some (cs[i]'(by omega)) := fun i h => (World.var?_cell gCfg hv i).trans (Array.getElem?_eq_getElem (by omega))
  exact ⟨_, _, _, at_ 0 (by omega), at_ 1 (by omega), at_ 2 (by omega)⟩

end Go.Proofs.YtifcmhekpbfboaaDoor
