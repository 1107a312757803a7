/- What the row of FnJqPathParts lists, as the walks ask for it: the path compiler's errors, jsonparser's configuration, escape table and error. Condition: the listed variables read as the row says. -/
import Derived.Test.YtnidncohhinjbaaDoorRows
import Derived.Test.YtnidncohhinjbaaDoorJq10
import Derived.ProofKit
import Derived.LaidMore
import Derived.LaidLaws
import Derived.Stop.Joined
import Derived.Stop.LaidErr
import Derived.Lib.LaidU8
import Derived.Lib.LaidTab
import Derived.Deep.Strs
namespace Go.Proofs.YtnidncohhinjbaaDoor
open Go.ChangeShapes Go.WideShapes Go.ChangeAt Go.RowKit

theorem jqStar : "*" ++ "errors.errorString" = "*errors.errorString" := by decide
theorem jqRowE (u : TypeId) (h : Tryd.prog.typeName? 3 u = some "*errors.errorString") : u = 93 :=
  typeName_ptr_named (nm := "errors.errorString") (by rw [jqStar]; kernel_rfl) (by kernel_rfl) (by decide) u (by rw [jqStar]; exact h)
theorem jqG0 : Tryd.prog.globalNamed "pub-tetrapla/pub/jsonparser.errEmptyPath" = some 0 := by kernel_rfl
theorem jqG1 : Tryd.prog.globalNamed "pub-tetrapla/pub/jsonparser.errMalformedPath" = some 1 := by kernel_rfl
theorem jqG2 : Tryd.prog.globalNamed "pub-tetrapla/pub/jsonparser.errUnterminatedKey" = some 2 := by kernel_rfl
theorem jqG3 : Tryd.prog.globalNamed "pub-tetrapla/pub/jsonparser.MalformedStringEscapeError" = some 7 := by kernel_rfl
theorem jqG4 : Tryd.prog.globalNamed "pub-tetrapla/pub/jsonparser.DefaultConfig" = some 4 := by kernel_rfl
theorem jqG5 : Tryd.prog.globalNamed "pub-tetrapla/pub/jsonparser.backslashCharEscapeTable" = some 11 := by kernel_rfl
theorem jqT0 : (Tryd.prog.globals[0]?).map (·.type) = some 48 := by kernel_rfl
theorem jqT1 : (Tryd.prog.globals[1]?).map (·.type) = some 48 := by kernel_rfl
theorem jqT2 : (Tryd.prog.globals[2]?).map (·.type) = some 48 := by kernel_rfl
theorem jqT3 : (Tryd.prog.globals[7]?).map (·.type) = some 48 := by kernel_rfl
theorem jqT4 : (Tryd.prog.globals[4]?).map (·.type) = some 120 := by kernel_rfl
theorem jqT5 : (Tryd.prog.globals[11]?).map (·.type) = some 141 := by kernel_rfl

def escTab : List Int := (List.range 117).map fun n => if n = 34 then 34 else if n = 92 then 92 else if n = 47 then 47 else if n = 98 then 8 else if n = 102 then 12 else if n = 110 then 10 else if n = 114 then 13 else if n = 116 then 9 else 0
theorem escTab_same : (Rows.laid_pub_tetrapla_pub_jsonparser_backslashCharEscapeTable : DataW Unit) = Lib.tabData .u8 escTab := by kernel_rfl

theorem GLAll.of_laid {W : World} (h : laidMetH Tryd.prog Rows.fnJqPathPartsRow.laid W) : GLAll W := by
  rw [MakeChecks.laidMetH_plain _ _ _ (by kernel_rfl)] at h
  obtain ⟨a3, s3, hv3, -, -, -⟩ := laid_sentinel h.tail.tail jqG3 jqT3 Tryd.underlying48 jqRowE Tryd.underlying93 Tryd.underlying95 rfl rfl Tryd.underlying9 (by kernel_rfl) (by kernel_rfl)
  obtain ⟨a0, s0, hv0, -, -, -⟩ := laid_sentinel h.tail.tail.tail jqG0 jqT0 Tryd.underlying48 jqRowE Tryd.underlying93 Tryd.underlying95 rfl rfl Tryd.underlying9 (by kernel_rfl) (by kernel_rfl)
  obtain ⟨a1, s1, hv1, -, -, -⟩ := laid_sentinel h.tail.tail.tail.tail jqG1 jqT1 Tryd.underlying48 jqRowE Tryd.underlying93 Tryd.underlying95 rfl rfl Tryd.underlying9 (by kernel_rfl) (by kernel_rfl)
  obtain ⟨a2, s2, hv2, -, -, -⟩ := laid_sentinel h.tail.tail.tail.tail.tail jqG2 jqT2 Tryd.underlying48 jqRowE Tryd.underlying93 Tryd.underlying95 rfl rfl Tryd.underlying9 (by kernel_rfl) (by kernel_rfl)
  have hr4 := Lib.laidMet.reads h (List.mem_cons_self ..)
  have hr5 := Lib.laidMet.reads h.tail (List.mem_cons_self ..)
  rw [escTab_same] at hr5
  obtain ⟨g, t, cs, fuel, p, hg, hty, hvar, hd⟩ := hr5
  obtain rfl := Option.some.inj (jqG5.symm.trans hg)
  obtain rfl := Option.some.inj (jqT5.symm.trans hty)
  have hcs := Lib.cells_of_tab Tryd.underlying141 Tryd.underlying5 (by kernel_rfl) (by kernel_rfl) hd
  have T : ∀ (n : Nat) (z : Int), escTab[n]? = some z → W.cell? ⟨11, n, none⟩ = some (.int .u8 z) := by
    intro n z hz
    have h1 := World.var?_cell hg hvar n
    rw [h1, ← Array.getElem?_toList, hcs, List.getElem?_map, hz]
    rfl
  obtain ⟨g4, t4, cs4, fuel4, p4, hg4, hty4, hvar4, hd4⟩ := hr4
  obtain rfl := Option.some.inj (jqG4.symm.trans hg4)
  obtain rfl := Option.some.inj (jqT4.symm.trans hty4)
  obtain ⟨y0, y1, y2, n, hx, hl, q0, q1, q2⟩ := Go.Deep.trod_struct3 Tryd.underlying120 hd4
  obtain ⟨b0, c0, rfl⟩ := DataW.trod_bool Tryd.underlying4 q0
  obtain ⟨b1, c1, rfl⟩ := DataW.trod_bool Tryd.underlying4 q1
  obtain ⟨b2, c2, rfl, -⟩ := DataW.trod_int Tryd.underlying3 q2
  have hx1 := congrArg Prod.fst hx
  simp only [Rows.laid_pub_tetrapla_pub_jsonparser_DefaultConfig, DataW.agg.injEq, List.cons.injEq, DataW.lit.injEq, Lit.bool.injEq, Lit.int.injEq, true_and, and_true] at hx1
  obtain ⟨rfl, rfl, rfl⟩ := hx1
  have C : ∀ (o : Nat) (v : Value), cs4.toList[o]? = some v → W.cell? ⟨4, o, none⟩ = some v := by
    intro o v hz
    rw [World.var?_cell hg4 hvar4 o, ← Array.getElem?_toList]
    exact hz
  have D : ∀ (l : List Value) (o : Nat) (v : Value), (l.drop o).take 1 = [v] → l[o]? = some v := by
    intro l o v hz
    have := congrArg (·[0]?) hz
    simpa [List.getElem?_take, List.getElem?_drop] using this
  have kb : Tryd.prog.cellsOf 4 = 1 := by kernel_rfl
  have ki : Tryd.prog.cellsOf 3 = 1 := by kernel_rfl
  simp only [kb] at c0 c1
  simp only [ki] at c2
  refine ⟨⟨⟨_, _, by simpa using World.var?_cell jqG0 hv0 0⟩, ⟨_, _, by simpa using World.var?_cell jqG1 hv1 0⟩, _, _, by simpa using World.var?_cell jqG2 hv2 0⟩, ?_⟩
  exact ⟨C 0 _ (D _ _ _ c0), C 1 _ (D _ _ _ c1), C 2 _ (D _ _ _ c2), ⟨_, _, by simpa using World.var?_cell jqG3 hv3 0⟩, T 34 34 rfl, T 92 92 rfl, T 47 47 rfl, T 98 8 rfl, T 102 12 rfl, T 110 10 rfl, T 114 13 rfl, T 116 9 rfl⟩
end Go.Proofs.YtnidncohhinjbaaDoor
