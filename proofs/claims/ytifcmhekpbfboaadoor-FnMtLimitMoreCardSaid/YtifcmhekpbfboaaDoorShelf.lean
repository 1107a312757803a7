/-
  DERIVED: THE SHELF's CONTRACTS AT THIS DUMP, IN PLAIN WORDS (tools/lay-plain.mjs out of 'TrydShelf.lean', which tools/lay-shelf.mjs wrote): THE SAME DECLARATIONS UNDER THE SAME NAMES: 'import', 'namespace', 'open', 'def', 'theorem' AND NOTHING ELSE: no command of the shelf's: FOR A HAND-IN. Each laying: the table of numbers ('.._ren') and one theorem, a field a fact of the dump's own or the kernel's comparison; each contract: ONE APPLICATION.
-/
import Derived.Shelf.Small.Utf8
import Derived.Ground.MnProg
import Derived.Shelf.Bin.LEUint64
import Derived.Shelf.Bin.LEUint64Panics
import Derived.Shelf.Bin.ReadersZ
import Derived.Shelf.Unicode.Decode
import Derived.Shelf.Unicode.DecodeSlow
import Derived.Shelf.Unicode.DecodeAny
import Derived.Shelf.Unicode.DecodeLast
import Derived.Test.YtifcmhekpbfboaaDoorProg
namespace Go.Proofs
open Go.Shelf
def Tryd.lays120_ren : Go.Shelf.Ren := ⟨fun | 120 => 45 | n => n, fun | 5 => 5 | 4 => 4 | n => n, fun | n => n⟩
theorem Tryd.lays120 : Go.Proofs.Lays.n120 Tryd.prog Tryd.lays120_ren := {
  mixed := by kernel_rfl
  f120 := Tryd.func45.trans (congrArg some (by kernel_rfl))
  t4 := Tryd.underlying4
  a4 := Tryd.isAgg4
  z4 := Tryd.sizeOf4
  v4 := Tryd.zeroValue4
  t5 := Tryd.underlying5
  a5 := Tryd.isAgg5
  z5 := Tryd.sizeOf5
  v5 := Tryd.zeroValue5 }
/-- utf8.RuneStart: "RuneStart reports whether the byte could be the first byte of an encoded, possibly invalid rune. Second and subsequent bytes always have the top two bits set to 10.": IT RETURNS 'Lib.runeStart b'; the world is as it was. ('h0', 'h1': b is a byte: a caller has it of every byte that it was handed.) (LAID: no walk: one application.) -/
theorem Tryd.utf8_RuneStart (b : Int) (w : World) (h0 : 0 ≤ b) (h1 : b < 256) :
    Calls Tryd.prog 45 #[.int .u8 b] w fun e w' => e = .returned (.bool (Lib.runeStart b)) ∧ w' = w := Any.utf8_RuneStart Tryd.lays120 b w h0 h1
def Tryd.laysBin33_ren : Go.Shelf.Ren := ⟨fun | 33 => 38 | n => n, fun | 25 => 72 | 22 => 43 | 33 => 44 | 0 => 0 | 5 => 5 | 45 => 80 | n => n, fun | n => n⟩
theorem Tryd.laysBin33 : Go.Proofs.LaysBin.n33 Tryd.prog Tryd.laysBin33_ren := {
  mixed := by kernel_rfl
  f33 := Tryd.func38.trans (congrArg some (by kernel_rfl))
  t0 := Tryd.underlying0
  a0 := Tryd.isAgg0
  z0 := Tryd.sizeOf0
  v0 := Tryd.zeroValue0
  i0 := by kernel_rfl
  t5 := Tryd.underlying5
  a5 := Tryd.isAgg5
  z5 := Tryd.sizeOf5
  v5 := Tryd.zeroValue5
  i5 := by kernel_rfl
  t22 := Tryd.underlying43
  a22 := Tryd.isAgg43
  z22 := Tryd.sizeOf43
  v22 := Tryd.zeroValue43
  i22 := by kernel_rfl
  t25 := Tryd.underlying72
  a25 := Tryd.isAgg72
  z25 := Tryd.sizeOf72
  v25 := Tryd.zeroValue72
  i25 := by kernel_rfl
  t33 := Tryd.underlying44
  a33 := Tryd.isAgg44
  z33 := Tryd.sizeOf44
  v33 := Tryd.zeroValue44
  i33 := by kernel_rfl
  t45 := Tryd.underlying80
  a45 := Tryd.isAgg80
  z45 := Tryd.sizeOf80
  v45 := Tryd.zeroValue80
  i45 := by kernel_rfl }
open Go.RowKit in
/-- binary.LittleEndian.Uint64: "Uint64 returns the uint64 representation of b[0:8].": THE NUMBER THAT THE FIRST 8 BYTES SPELL, the least byte first ('Lib.leNat'). Of what was there nothing has turned (the receiver, an empty struct, is laid in a new block without cells; the statement's order is drawn). (LAID: no walk: one application.) -/
theorem Tryd.binary_LE_Uint64 (g o n c : Nat) (b0 b1 b2 b3 b4 b5 b6 b7 : UInt8) (w : World) (hn : 8 ≤ n) (c0 : w.cell? ⟨g, o, none⟩ = some (.int .u8 b0.toNat)) (c1 : w.cell? ⟨g, o + 1, none⟩ = some (.int .u8 b1.toNat)) (c2 : w.cell? ⟨g, o + 2, none⟩ = some (.int .u8 b2.toNat)) (c3 : w.cell? ⟨g, o + 3, none⟩ = some (.int .u8 b3.toNat)) (c4 : w.cell? ⟨g, o + 4, none⟩ = some (.int .u8 b4.toNat)) (c5 : w.cell? ⟨g, o + 5, none⟩ = some (.int .u8 b5.toNat)) (c6 : w.cell? ⟨g, o + 6, none⟩ = some (.int .u8 b6.toNat)) (c7 : w.cell? ⟨g, o + 7, none⟩ = some (.int .u8 b7.toNat)) :
    Calls Tryd.prog 38 #[.agg #[], .slice (some ⟨g, o, none⟩) n c] w fun e w' => e = .returned (.int .u64 (Lib.leNat [b0, b1, b2, b3, b4, b5, b6, b7])) ∧ Below w.heap.size w w' := Any.binary_LE_Uint64 Tryd.laysBin33 g o n c b0 b1 b2 b3 b4 b5 b6 b7 w hn c0 c1 c2 c3 c4 c5 c6 c7
open Go.RowKit in
/-- binary.LittleEndian.Uint64, b SHORTER THAN 8: IT PANICS: Go's 'runtime error: index out of range [7] with length n' ('Lib.boundsPanicked'). THE WORLD: the receiver's new block without cells, and the draw of the panic's flag. (LAID: no walk: one application.) -/
theorem Tryd.binary_LE_Uint64_panics (ao : Option Addr) (n c : Nat) (w : World) (hn : n < 8) (hnil : ao = none → n = 0) :
    Calls Tryd.prog 38 #[.agg #[], .slice ao n c] w fun e w' => Lib.boundsPanicked Tryd.prog 7 n e ∧ w' = (w.alloc (.cells #[] 72)).drew := Any.binary_LE_Uint64_panics Tryd.laysBin33 ao n c w hn hnil
open Go.RowKit in
/-- binary.LittleEndian.Uint64, ITS PREMISES 'open_ints'' CONCLUSION TO THE LETTER: a slice at WHATEVER address a, the numbers zs that its cells hold: THE NUMBER THAT THE FIRST 8 SPELL ('Lib.leZ'). (LAID: no walk: one application.) -/
theorem Tryd.binary_LE_Uint64_z (a : Addr) (n c : Nat) (zs : List Int) (w : World) (hn : 8 ≤ n) (hl : 8 ≤ zs.length) (hcell : ∀ i, i < zs.length → w.cell? (a.add i) = some (.int .u8 (zs.getD i 0))) (hw : ∀ z ∈ zs, (Lit.int .u8 z).wf = true) :
    Calls Tryd.prog 38 #[.agg #[], .slice (some a) n c] w fun e w' => e = .returned (.int .u64 (Lib.leZ (zs.take 8))) ∧ Below w.heap.size w w' := Any.binary_LE_Uint64_z Tryd.laysBin33 a n c zs w hn hl hcell hw
def Tryd.lays197_ren : Go.Shelf.Ren := ⟨fun | 197 => 40 | 260 => 43 | n => n, fun | 9 => 9 | 21 => 21 | 3 => 3 | 4 => 4 | 5 => 5 | 105 => 75 | 119 => 67 | 0 => 0 | 46 => 80 | 139 => 83 | 138 => 82 | n => n, fun | 3 => 5 | 4 => 6 | n => n⟩
theorem Tryd.lays197 : Go.Proofs.Lays.n197 Tryd.prog Tryd.lays197_ren := {
  mixed := by kernel_rfl
  f197 := Tryd.func40.trans (congrArg some (by kernel_rfl))
  f260 := Tryd.func43.trans (congrArg some (by kernel_rfl))
  t0 := Tryd.underlying0
  a0 := Tryd.isAgg0
  z0 := Tryd.sizeOf0
  v0 := Tryd.zeroValue0
  t3 := Tryd.underlying3
  a3 := Tryd.isAgg3
  z3 := Tryd.sizeOf3
  v3 := Tryd.zeroValue3
  t4 := Tryd.underlying4
  a4 := Tryd.isAgg4
  z4 := Tryd.sizeOf4
  v4 := Tryd.zeroValue4
  t5 := Tryd.underlying5
  a5 := Tryd.isAgg5
  z5 := Tryd.sizeOf5
  v5 := Tryd.zeroValue5
  t9 := Tryd.underlying9
  a9 := Tryd.isAgg9
  z9 := Tryd.sizeOf9
  v9 := Tryd.zeroValue9
  t21 := Tryd.underlying21
  a21 := Tryd.isAgg21
  z21 := Tryd.sizeOf21
  v21 := Tryd.zeroValue21
  t46 := Tryd.underlying80
  a46 := Tryd.isAgg80
  z46 := Tryd.sizeOf80
  v46 := Tryd.zeroValue80
  t105 := Tryd.underlying75
  a105 := Tryd.isAgg75
  z105 := Tryd.sizeOf75
  v105 := Tryd.zeroValue75
  t119 := Tryd.underlying67
  a119 := Tryd.isAgg67
  z119 := Tryd.sizeOf67
  t138 := Tryd.underlying82
  a138 := Tryd.isAgg82
  z138 := Tryd.sizeOf82
  v138 := Tryd.zeroValue82
  t139 := Tryd.underlying83
  a139 := Tryd.isAgg83
  z139 := Tryd.sizeOf83
  v139 := Tryd.zeroValue83
  g3 := by kernel_rfl
  g4 := by kernel_rfl }
open Go.RowKit Go.Lib in
/-- unicode/utf8.DecodeRuneInString: "DecodeRuneInString is like DecodeRune but its input is a string.": ("DecodeRune unpacks the first UTF-8 encoding in p and returns the rune and its width in bytes."): WHERE s BEGINS WITH AN ASCII BYTE x: (x, 1). (LAID: no walk: one application.) -/
theorem Tryd.utf8_DecodeRuneInString_ascii (s : ByteArray) (x : UInt8) (w : World) (h0 : s.data.toList[0]? = some x) (hx : x.toNat < 128) :
    Calls Tryd.prog 40 #[.string s] w fun e w' => e = .returned (.tuple #[.int .i32 x.toNat, .int .i64 1]) ∧ w' = w := Any.utf8_DecodeRuneInString_ascii Tryd.lays197 s x w h0 hx
def Tryd.lays260_ren : Go.Shelf.Ren := ⟨fun | 260 => 43 | n => n, fun | 9 => 9 | 21 => 21 | 3 => 3 | 4 => 4 | 5 => 5 | 119 => 67 | 0 => 0 | 46 => 80 | 139 => 83 | 138 => 82 | n => n, fun | 3 => 5 | 4 => 6 | n => n⟩
theorem Tryd.lays260 : Go.Proofs.Lays.n260 Tryd.prog Tryd.lays260_ren := {
  mixed := by kernel_rfl
  f260 := Tryd.func43.trans (congrArg some (by kernel_rfl))
  t0 := Tryd.underlying0
  a0 := Tryd.isAgg0
  z0 := Tryd.sizeOf0
  v0 := Tryd.zeroValue0
  t3 := Tryd.underlying3
  a3 := Tryd.isAgg3
  z3 := Tryd.sizeOf3
  v3 := Tryd.zeroValue3
  t4 := Tryd.underlying4
  a4 := Tryd.isAgg4
  z4 := Tryd.sizeOf4
  v4 := Tryd.zeroValue4
  t5 := Tryd.underlying5
  a5 := Tryd.isAgg5
  z5 := Tryd.sizeOf5
  v5 := Tryd.zeroValue5
  t9 := Tryd.underlying9
  a9 := Tryd.isAgg9
  z9 := Tryd.sizeOf9
  v9 := Tryd.zeroValue9
  t21 := Tryd.underlying21
  a21 := Tryd.isAgg21
  z21 := Tryd.sizeOf21
  v21 := Tryd.zeroValue21
  t46 := Tryd.underlying80
  a46 := Tryd.isAgg80
  z46 := Tryd.sizeOf80
  v46 := Tryd.zeroValue80
  t119 := Tryd.underlying67
  a119 := Tryd.isAgg67
  z119 := Tryd.sizeOf67
  t138 := Tryd.underlying82
  a138 := Tryd.isAgg82
  z138 := Tryd.sizeOf82
  v138 := Tryd.zeroValue82
  t139 := Tryd.underlying83
  a139 := Tryd.isAgg83
  z139 := Tryd.sizeOf83
  v139 := Tryd.zeroValue83
  g3 := by kernel_rfl
  g4 := by kernel_rfl }
open Go.RowKit Go.Lib in
theorem Tryd.utf8_decodeRuneInStringSlow (s : ByteArray) (w : World) (hT : Lib.Utf8Tabs 5 6 w) :
    Calls Tryd.prog 43 #[.string s] w fun e w' => e = .returned (.tuple #[.int .i32 (Lib.decodeGo s).1, .int .i64 (Lib.decodeGo s).2]) ∧ Below w.heap.size w w' := Any.utf8_decodeRuneInStringSlow Tryd.lays260 s w hT
open Go.RowKit Go.Lib in
/-- **unicode/utf8.DecodeRuneInString AT EVERY STRING.** (LAID: no walk: one application.) -/
theorem Tryd.utf8_DecodeRuneInString (s : ByteArray) (w : World) (hT : Lib.Utf8Tabs 5 6 w) :
    Calls Tryd.prog 40 #[.string s] w fun e w' => e = .returned (.tuple #[.int .i32 (Lib.decodeGo s).1, .int .i64 (Lib.decodeGo s).2]) ∧ Below w.heap.size w w' := Any.utf8_DecodeRuneInString Tryd.lays197 s w hT
def Tryd.lays271_ren : Go.Shelf.Ren := ⟨fun | 271 => 44 | 120 => 45 | 197 => 40 | 260 => 43 | n => n, fun | 9 => 9 | 21 => 21 | 3 => 3 | 4 => 4 | 5 => 5 | 105 => 75 | 119 => 67 | 0 => 0 | 46 => 80 | 139 => 83 | 138 => 82 | n => n, fun | 3 => 5 | 4 => 6 | n => n⟩
theorem Tryd.lays271 : Go.Proofs.Lays.n271 Tryd.prog Tryd.lays271_ren := {
  mixed := by kernel_rfl
  f120 := Tryd.func45.trans (congrArg some (by kernel_rfl))
  f197 := Tryd.func40.trans (congrArg some (by kernel_rfl))
  f260 := Tryd.func43.trans (congrArg some (by kernel_rfl))
  f271 := Tryd.func44.trans (congrArg some (by kernel_rfl))
  t0 := Tryd.underlying0
  a0 := Tryd.isAgg0
  z0 := Tryd.sizeOf0
  v0 := Tryd.zeroValue0
  t3 := Tryd.underlying3
  a3 := Tryd.isAgg3
  z3 := Tryd.sizeOf3
  v3 := Tryd.zeroValue3
  t4 := Tryd.underlying4
  a4 := Tryd.isAgg4
  z4 := Tryd.sizeOf4
  v4 := Tryd.zeroValue4
  t5 := Tryd.underlying5
  a5 := Tryd.isAgg5
  z5 := Tryd.sizeOf5
  v5 := Tryd.zeroValue5
  t9 := Tryd.underlying9
  a9 := Tryd.isAgg9
  z9 := Tryd.sizeOf9
  v9 := Tryd.zeroValue9
  t21 := Tryd.underlying21
  a21 := Tryd.isAgg21
  z21 := Tryd.sizeOf21
  v21 := Tryd.zeroValue21
  t46 := Tryd.underlying80
  a46 := Tryd.isAgg80
  z46 := Tryd.sizeOf80
  v46 := Tryd.zeroValue80
  t105 := Tryd.underlying75
  a105 := Tryd.isAgg75
  z105 := Tryd.sizeOf75
  v105 := Tryd.zeroValue75
  t119 := Tryd.underlying67
  a119 := Tryd.isAgg67
  z119 := Tryd.sizeOf67
  t138 := Tryd.underlying82
  a138 := Tryd.isAgg82
  z138 := Tryd.sizeOf82
  v138 := Tryd.zeroValue82
  t139 := Tryd.underlying83
  a139 := Tryd.isAgg83
  z139 := Tryd.sizeOf83
  v139 := Tryd.zeroValue83
  g3 := by kernel_rfl
  g4 := by kernel_rfl }
open Go.RowKit Go.Lib in
/-- **unicode/utf8.DecodeLastRuneInString AT EVERY STRING.** (LAID: no walk: one application.) -/
theorem Tryd.utf8_DecodeLastRuneInString (s : ByteArray) (w : World) (hs : s.size ≤ 9223372036854775807) (hT : Lib.Utf8Tabs 5 6 w) :
    Calls Tryd.prog 44 #[.string s] w fun e w' => e = .returned (.tuple #[.int .i32 (Lib.decodeLastL s.data.toList).1, .int .i64 (Lib.decodeLastL s.data.toList).2]) ∧ Below w.heap.size w w' := Any.utf8_DecodeLastRuneInString Tryd.lays271 s w hs hT
end Go.Proofs
