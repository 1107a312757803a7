/-
  DERIVED: THE SHELF's CONTRACTS AT THIS DUMP, IN PLAIN WORDS (tools/lay-plain.mjs out of 'TrydShelf.lean', which tools/lay-shelf.mjs wrote): THE SAME DECLARATIONS UNDER THE SAME NAMES: 'import', 'namespace', 'open', 'def', 'theorem' AND NOTHING ELSE: no command of the shelf's: FOR A HAND-IN. Each laying: the table of numbers ('.._ren') and one theorem, a field a fact of the dump's own or the kernel's comparison; each contract: ONE APPLICATION.
-/
import Derived.Shelf.Small.Strs







import Derived.Ground.MpProg
import Derived.Shelf.Pu.ParseUintPublic10


import Derived.Test.YtnidncohhinjbaaDoorProg
namespace Go.Proofs
open Go.Shelf
def Tryd.lays137_ren : Go.Shelf.Ren := ⟨fun | 137 => 62 | 217 => 80 | 266 => 97 | n => n, fun | 9 => 9 | 5 => 5 | 3 => 3 | n => n, fun | n => n⟩
theorem Tryd.lays137 : Go.Proofs.Lays.n137 Tryd.prog Tryd.lays137_ren := {
  mixed := by kernel_rfl
  f137 := Tryd.func62.trans (congrArg some (by kernel_rfl))
  f217 := Tryd.func80.trans (congrArg some (by kernel_rfl))
  f266 := Tryd.func97.trans (congrArg some (by kernel_rfl))
  t3 := Tryd.underlying3
  a3 := Tryd.isAgg3
  z3 := Tryd.sizeOf3
  v3 := Tryd.zeroValue3
  t5 := Tryd.underlying5
  a5 := Tryd.isAgg5
  z5 := Tryd.sizeOf5
  v5 := Tryd.zeroValue5
  t9 := Tryd.underlying9
  a9 := Tryd.isAgg9
  z9 := Tryd.sizeOf9
  v9 := Tryd.zeroValue9 }
open Go.RowKit in
/-- strings.IndexByte: "IndexByte returns the index of the first instance of c in s, or -1 if c is not present in s.": IT RETURNS 'Lib.indexByte s c'; the world is as it was. (LAID: no walk: one application.) -/
theorem Tryd.strings_IndexByte (s : ByteArray) (c : Int) (w : World) :
    Calls Tryd.prog 62 #[.string s, .int .u8 c] w fun e w' => e = .returned (.int .i64 (Lib.indexByte s.data.toList c.toNat.toUInt8)) ∧ w' = w := Any.strings_IndexByte Tryd.lays137 s c w
def Tryd.laysPu14_ren : Go.Shelf.Ren := ⟨fun | 14 => 47 | 16 => 64 | 17 => 65 | 19 => 82 | 20 => 83 | 21 => 84 | 22 => 85 | 23 => 86 | 24 => 87 | 25 => 100 | 27 => 101 | 26 => 46 | 28 => 108 | 29 => 113 | 30 => 115 | 31 => 116 | 32 => 117 | 33 => 118 | 35 => 120 | 34 => 119 | 36 => 121 | 37 => 122 | 38 => 123 | 39 => 124 | 40 => 125 | n => n, fun | 9 => 9 | 3 => 3 | 22 => 33 | 24 => 48 | 25 => 56 | 4 => 4 | 34 => 121 | 5 => 5 | 36 => 74 | 37 => 83 | 0 => 0 | 39 => 123 | 21 => 21 | 44 => 139 | 47 => 145 | 50 => 95 | 48 => 93 | 2 => 2 | 52 => 152 | 55 => 155 | 59 => 159 | 60 => 149 | 20 => 20 | 61 => 160 | 65 => 163 | 66 => 164 | 67 => 165 | n => n, fun | 0 => 8 | 1 => 9 | 2 => 12 | 3 => 13 | 4 => 14 | n => n⟩
theorem Tryd.laysPu14 : Go.Proofs.LaysPu.n14 Tryd.prog Tryd.laysPu14_ren := {
  mixed := by kernel_rfl
  f14 := Tryd.func47.trans (congrArg some (by kernel_rfl))
  f16 := Tryd.func64.trans (congrArg some (by kernel_rfl))
  f17 := Tryd.func65.trans (congrArg some (by kernel_rfl))
  f19 := Tryd.func82.trans (congrArg some (by kernel_rfl))
  f20 := Tryd.func83.trans (congrArg some (by kernel_rfl))
  f21 := Tryd.func84.trans (congrArg some (by kernel_rfl))
  f22 := Tryd.func85.trans (congrArg some (by kernel_rfl))
  f23 := Tryd.func86.trans (congrArg some (by kernel_rfl))
  f24 := Tryd.func87.trans (congrArg some (by kernel_rfl))
  f25 := Tryd.func100.trans (congrArg some (by kernel_rfl))
  f26 := Tryd.func46.trans (congrArg some (by kernel_rfl))
  f27 := Tryd.func101.trans (congrArg some (by kernel_rfl))
  f28 := Tryd.func108.trans (congrArg some (by kernel_rfl))
  f29 := Tryd.func113.trans (congrArg some (by kernel_rfl))
  f30 := Tryd.func115.trans (congrArg some (by kernel_rfl))
  f31 := Tryd.func116.trans (congrArg some (by kernel_rfl))
  f32 := Tryd.func117.trans (congrArg some (by kernel_rfl))
  f33 := Tryd.func118.trans (congrArg some (by kernel_rfl))
  f34 := Tryd.func119.trans (congrArg some (by kernel_rfl))
  f35 := Tryd.func120.trans (congrArg some (by kernel_rfl))
  f36 := Tryd.func121.trans (congrArg some (by kernel_rfl))
  f37 := Tryd.func122.trans (congrArg some (by kernel_rfl))
  f38 := Tryd.func123.trans (congrArg some (by kernel_rfl))
  f39 := Tryd.func124.trans (congrArg some (by kernel_rfl))
  f40 := Tryd.func125.trans (congrArg some (by kernel_rfl))
  t0 := Tryd.underlying0
  a0 := Tryd.isAgg0
  z0 := Tryd.sizeOf0
  v0 := Tryd.zeroValue0
  i0 := by kernel_rfl
  t2 := Tryd.underlying2
  a2 := Tryd.isAgg2
  z2 := Tryd.sizeOf2
  v2 := Tryd.zeroValue2
  i2 := by kernel_rfl
  t3 := Tryd.underlying3
  a3 := Tryd.isAgg3
  z3 := Tryd.sizeOf3
  v3 := Tryd.zeroValue3
  i3 := by kernel_rfl
  t4 := Tryd.underlying4
  a4 := Tryd.isAgg4
  z4 := Tryd.sizeOf4
  v4 := Tryd.zeroValue4
  i4 := by kernel_rfl
  t5 := Tryd.underlying5
  a5 := Tryd.isAgg5
  z5 := Tryd.sizeOf5
  v5 := Tryd.zeroValue5
  i5 := by kernel_rfl
  t9 := Tryd.underlying9
  a9 := Tryd.isAgg9
  z9 := Tryd.sizeOf9
  v9 := Tryd.zeroValue9
  i9 := by kernel_rfl
  t20 := Tryd.underlying20
  a20 := Tryd.isAgg20
  z20 := Tryd.sizeOf20
  v20 := Tryd.zeroValue20
  i20 := by kernel_rfl
  t21 := Tryd.underlying21
  a21 := Tryd.isAgg21
  z21 := Tryd.sizeOf21
  v21 := Tryd.zeroValue21
  i21 := by kernel_rfl
  t22 := Tryd.underlying33
  a22 := Tryd.isAgg33
  z22 := Tryd.sizeOf33
  v22 := Tryd.zeroValue33
  i22 := by kernel_rfl
  t24 := Tryd.underlying48
  a24 := Tryd.isAgg48
  z24 := Tryd.sizeOf48
  v24 := Tryd.zeroValue48
  i24 := by kernel_rfl
  t25 := Tryd.underlying56
  a25 := Tryd.isAgg56
  z25 := Tryd.sizeOf56
  v25 := Tryd.zeroValue56
  i25 := by kernel_rfl
  t34 := Tryd.underlying121
  a34 := Tryd.isAgg121
  z34 := Tryd.sizeOf121
  v34 := Tryd.zeroValue121
  i34 := by kernel_rfl
  c34 := by kernel_rfl
  t36 := Tryd.underlying74
  a36 := Tryd.isAgg74
  z36 := Tryd.sizeOf74
  v36 := Tryd.zeroValue74
  i36 := by kernel_rfl
  t37 := Tryd.underlying83
  a37 := Tryd.isAgg83
  z37 := Tryd.sizeOf83
  v37 := Tryd.zeroValue83
  i37 := by kernel_rfl
  t39 := Tryd.underlying123
  a39 := Tryd.isAgg123
  z39 := Tryd.sizeOf123
  v39 := Tryd.zeroValue123
  i39 := by kernel_rfl
  t44 := Tryd.underlying139
  a44 := Tryd.isAgg139
  z44 := Tryd.sizeOf139
  v44 := Tryd.zeroValue139
  i44 := by kernel_rfl
  t47 := Tryd.underlying145
  a47 := Tryd.isAgg145
  z47 := Tryd.sizeOf145
  v47 := Tryd.zeroValue145
  i47 := by kernel_rfl
  t48 := Tryd.underlying93
  a48 := Tryd.isAgg93
  z48 := Tryd.sizeOf93
  v48 := Tryd.zeroValue93
  i48 := by kernel_rfl
  t50 := Tryd.underlying95
  a50 := Tryd.isAgg95
  z50 := Tryd.sizeOf95
  v50 := Tryd.zeroValue95
  i50 := by kernel_rfl
  t52 := Tryd.underlying152
  a52 := Tryd.isAgg152
  z52 := Tryd.sizeOf152
  v52 := Tryd.zeroValue152
  i52 := by kernel_rfl
  t55 := Tryd.underlying155
  a55 := Tryd.isAgg155
  z55 := Tryd.sizeOf155
  v55 := Tryd.zeroValue155
  i55 := by kernel_rfl
  t59 := Tryd.underlying159
  a59 := Tryd.isAgg159
  z59 := Tryd.sizeOf159
  v59 := Tryd.zeroValue159
  i59 := by kernel_rfl
  t60 := Tryd.underlying149
  a60 := Tryd.isAgg149
  z60 := Tryd.sizeOf149
  v60 := Tryd.zeroValue149
  i60 := by kernel_rfl
  t61 := Tryd.underlying160
  a61 := Tryd.isAgg160
  z61 := Tryd.sizeOf160
  t65 := Tryd.underlying163
  a65 := Tryd.isAgg163
  z65 := Tryd.sizeOf163
  v65 := Tryd.zeroValue163
  i65 := by kernel_rfl
  t66 := Tryd.underlying164
  a66 := Tryd.isAgg164
  z66 := Tryd.sizeOf164
  v66 := Tryd.zeroValue164
  i66 := by kernel_rfl
  t67 := Tryd.underlying165
  a67 := Tryd.isAgg165
  z67 := Tryd.sizeOf165
  v67 := Tryd.zeroValue165
  i67 := by kernel_rfl
  g0 := by kernel_rfl
  m0 := by kernel_rfl
  g1 := by kernel_rfl
  m1 := by kernel_rfl
  g2 := by kernel_rfl
  m2 := by kernel_rfl
  g3 := by kernel_rfl
  m3 := by kernel_rfl
  g4 := by kernel_rfl
  m4 := by kernel_rfl }
open Go.RowKit in
/-- strconv.ParseUint(s, 10, 64), AT EVERY STRING THAT SPELLS A uint64 ('Lib.parseUintB 64 s.data.toList = .ok u'): u, AND NO ERROR. (LAID: no walk: one application.) -/
theorem Tryd.strconv_ParseUint_10_at64_ok (s : ByteArray) (hmax : s.size ≤ 9223372036854775806) (u : Nat) (h : Lib.parseUintB 64 s.data.toList = .ok u) (w : World) :
    Calls Tryd.prog 47 #[.string s, .int .i64 10, .int .i64 64] w fun e w' => e = .returned (.tuple #[.int .u64 u, .nilIface]) ∧ (w' = w ∨ w' = Lib.bytesWorld w 5 s) := Any.strconv_ParseUint_10_at64_ok Tryd.laysPu14 s hmax u h w
end Go.Proofs
