/- unicode/utf8's two tables as the walks ask for them, and the contracts of DecodeRuneInString and DecodeLastRuneInString in the form of list functions. Condition: the two tables read as the row says. -/
import Derived.Test.YtifcmhekpbfboaaDoorProg
import Derived.Test.YtifcmhekpbfboaaDoorShelf
import Derived.ProofKit
import Derived.LaidMore
import Derived.LaidLaws
import Derived.Stop.Joined
import Derived.Lib.LaidU8
import Derived.Below
namespace Go.Proofs.YtifcmhekpbfboaaDoor
open Go.ChangeShapes Go.WideShapes Go.ChangeAt Go.RowKit

/-- The two tables hold what their initialisers lay. -/
def GLU8 (w : World) : Prop := Lib.Utf8Tabs 5 6 w
theorem GLU8.keep {w w' : World} (h : GLU8 w) (hb : Below w.heap.size w w') : GLU8 w' := Utf8Tabs_below h hb

theorem u8Extra : U8Extra Tryd.prog Tryd.lays260_ren := {
  n3 := by kernel_rfl
  n4 := by kernel_rfl
  y3 := by kernel_rfl
  y4 := by kernel_rfl
  c5 := by kernel_rfl
  c119 := by kernel_rfl
  c138 := by kernel_rfl }

theorem GLU8.of_reads {w : World} (h3 : Lib.VarReads Tryd.prog w "unicode/utf8.first" Lib.firstData) (h4 : Lib.VarReads Tryd.prog w "unicode/utf8.acceptRanges" Lib.acceptData) : GLU8 w :=
  utf8Tabs_of_reads Tryd.lays260 u8Extra h3 h4

def utf8_DecodeRuneInString.f (s : ByteArray) : Option (Int × Int) := some (((Lib.decodeGo s).1 : Nat), ((Lib.decodeGo s).2 : Nat))
theorem utf8_DecodeRuneInString.calls (s : ByteArray) (r1 r2 : Int) (w : World) (hG : GLU8 w) (h : utf8_DecodeRuneInString.f s = some (r1, r2)) :
    Calls Tryd.prog 40 #[.string s] w fun e w' => e = .returned (.tuple #[.int .i32 r1, .int .i64 r2]) ∧ Below w.heap.size w w' := by
  unfold utf8_DecodeRuneInString.f at h
  simp only [Option.some.injEq, Prod.mk.injEq] at h
  obtain ⟨rfl, rfl⟩ := h
  exact Tryd.utf8_DecodeRuneInString s w hG

def utf8_DecodeLastRuneInString.f (s : ByteArray) : Option (Int × Int) := if s.size ≤ 140737488351232 then some (((Lib.decodeLastL s.data.toList).1 : Nat), ((Lib.decodeLastL s.data.toList).2 : Nat)) else none
theorem utf8_DecodeLastRuneInString.calls (s : ByteArray) (r1 r2 : Int) (w : World) (hG : GLU8 w) (h : utf8_DecodeLastRuneInString.f s = some (r1, r2)) :
    Calls Tryd.prog 44 #[.string s] w fun e w' => e = .returned (.tuple #[.int .i32 r1, .int .i64 r2]) ∧ Below w.heap.size w w' := by
  unfold utf8_DecodeLastRuneInString.f at h
  split at h
  · rename_i hs
    simp only [Option.some.injEq, Prod.mk.injEq] at h
    obtain ⟨rfl, rfl⟩ := h
    exact Tryd.utf8_DecodeLastRuneInString s w (by omega) hG
  · simp at h

end Go.Proofs.YtifcmhekpbfboaaDoor
