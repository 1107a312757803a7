/- jsonparser's escapes: the library's EncodeRune and IndexByte at this program, and what decodeUnicodeEscape's list function gives at every row of bytes. No condition. -/
import Derived.Test.YtnidncohhinjbaaDoorJq3
import Derived.Test.YtnidncohhinjbaaDoorMjsonparserdecodeUnicodeEscape
import Derived.Shelf.Spec.EncodeRune
import Derived.Shelf.Bytes.SlIndexAt
import Derived.Lib.SlBuf
namespace Go.Proofs.YtnidncohhinjbaaDoor
open Go.RowKit Go.Shelf

def ren7 : Ren := ⟨fun | 30 => 107 | 47 => 112 | n => n, fun | 0 => 0 | 3 => 3 | 4 => 4 | 5 => 5 | 21 => 21 | 25 => 74 | 27 => 149 | 30 => 83 | n => n, fun | n => n⟩
theorem lays7_30 : Lays7.n30 Tryd.prog ren7 := {
  mixed := by kernel_rfl
  f30 := Tryd.func107.trans (congrArg some (by kernel_rfl))
  f47 := Tryd.func112.trans (congrArg some (by kernel_rfl))
  t0 := Tryd.underlying0
  a0 := Tryd.isAgg0
  z0 := Tryd.sizeOf0
  v0 := Tryd.zeroValue0
  i0 := by kernel_rfl
  t3 := Tryd.underlying3
  a3 := Tryd.isAgg3
  z3 := Tryd.sizeOf3
  v3 := Tryd.zeroValue3
  i3 := by kernel_rfl
  t4 := Tryd.underlying4
  a4 := Tryd.isAgg4
  z4 := Tryd.sizeOf4
  v4 := Tryd.zeroValue4
  i4 := by kernel_rfl
  t5 := Tryd.underlying5
  a5 := Tryd.isAgg5
  z5 := Tryd.sizeOf5
  v5 := Tryd.zeroValue5
  i5 := by kernel_rfl
  t21 := Tryd.underlying21
  a21 := Tryd.isAgg21
  z21 := Tryd.sizeOf21
  v21 := Tryd.zeroValue21
  i21 := by kernel_rfl
  t25 := Tryd.underlying74
  a25 := Tryd.isAgg74
  z25 := Tryd.sizeOf74
  v25 := Tryd.zeroValue74
  i25 := by kernel_rfl
  t27 := Tryd.underlying149
  a27 := Tryd.isAgg149
  z27 := Tryd.sizeOf149
  v27 := Tryd.zeroValue149
  i27 := by kernel_rfl
  t30 := Tryd.underlying83
  a30 := Tryd.isAgg83
  z30 := Tryd.sizeOf83
  v30 := Tryd.zeroValue83
  i30 := by kernel_rfl }

def renIx : Ren := ⟨fun | 187 => 98 | 255 => 105 | n => n, fun | 3 => 3 | 5 => 5 | 37 => 83 | n => n, fun | n => n⟩
theorem lays187 : Lays.n187 Tryd.prog renIx := {
  mixed := by kernel_rfl
  f187 := Tryd.func98.trans (congrArg some (by kernel_rfl))
  f255 := Tryd.func105.trans (congrArg some (by kernel_rfl))
  t3 := Tryd.underlying3
  a3 := Tryd.isAgg3
  z3 := Tryd.sizeOf3
  v3 := Tryd.zeroValue3
  t5 := Tryd.underlying5
  a5 := Tryd.isAgg5
  z5 := Tryd.sizeOf5
  v5 := Tryd.zeroValue5
  t37 := Tryd.underlying83
  a37 := Tryd.isAgg83
  z37 := Tryd.sizeOf83
  v37 := Tryd.zeroValue83 }

namespace MjsonparserdecodeUnicodeEscape
open Go.Proofs.YtnidncohhinjbaaDoorW.PrintWords Go.Proofs.YtnidncohhinjbaaDoorW.PrintLast Go.Proofs.YtnidncohhinjbaaDoorW.PrintMore

theorem h2I_total (k : Nat) (x : Int) : ∃ r, jsonparser_h2I.f (k + 2) x = some r := by
  simp only [jsonparser_h2I.f, jsonparser_h2I.j0, jsonparser_h2I.j1]
  repeat' split
  all_goals exact ⟨_, rfl⟩

theorem w32_in (x : Int) : -2147483648 ≤ wrap32 x ∧ wrap32 x ≤ 2147483647 := by
  unfold wrap32
  omega

theorem single_total (k : Nat) (l : List Int) : ∃ r b, jsonparser_decodeSingleUnicodeEscape.f (k + 2) l = some (r, b) ∧ (-2147483648 ≤ r ∧ r ≤ 2147483647) ∧ (b = true → 6 ≤ l.length) := by
  unfold jsonparser_decodeSingleUnicodeEscape.f
  by_cases h : (l.length : Int) < 6
  · rw [if_pos h]
    exact ⟨_, _, rfl, by omega, fun h => by cases h⟩
  · rw [if_neg h]
    have h2 : 2 < (l.length : Int) := by omega
    have h3 : 3 < (l.length : Int) := by omega
    have h4 : 4 < (l.length : Int) := by omega
    have h5 : 5 < (l.length : Int) := by omega
    have h6 : 6 ≤ l.length := by omega
    obtain ⟨r2, e2⟩ := h2I_total k (rd l 2)
    obtain ⟨r3, e3⟩ := h2I_total k (rd l 3)
    obtain ⟨r4, e4⟩ := h2I_total k (rd l 4)
    obtain ⟨r5, e5⟩ := h2I_total k (rd l 5)
    rw [if_pos h2, e2, Option.bind_some, if_pos h3, e3, Option.bind_some, if_pos h4, e4, Option.bind_some, if_pos h5, e5, Option.bind_some]
    split
    · exact ⟨_, _, rfl, by omega, fun _ => h6⟩
    · split
      · exact ⟨_, _, rfl, by omega, fun _ => h6⟩
      · split
        · exact ⟨_, _, rfl, by omega, fun _ => h6⟩
        · split
          · exact ⟨_, _, rfl, by omega, fun _ => h6⟩
          · exact ⟨_, _, rfl, w32_in _, fun _ => h6⟩

theorem dec_total (k : Nat) (l : List Int) : ∃ r n, jsonparser_decodeUnicodeEscape.f (k + 3) l = some (r, n) ∧ (-2147483648 ≤ r ∧ r ≤ 2147483647) ∧ (n = -1 ∨ (n = 6 ∧ 6 ≤ l.length) ∨ (n = 12 ∧ 12 ≤ l.length)) := by
  unfold jsonparser_decodeUnicodeEscape.f
  obtain ⟨r, b, e, hr, hb⟩ := single_total (k + 1) l
  rw [e, Option.bind_some]
  cases b with
  | false => exact ⟨_, _, rfl, by omega, .inl rfl⟩
  | true =>
    have h6 := hb rfl
    rw [if_pos rfl]
    have j0 : ∀ q, ∃ r' n, jsonparser_decodeUnicodeEscape.j0 (k + 3) l r q = some (r', n) ∧ (-2147483648 ≤ r' ∧ r' ≤ 2147483647) ∧ (n = -1 ∨ (n = 6 ∧ 6 ≤ l.length) ∨ (n = 12 ∧ 12 ≤ l.length)) := by
      intro q
      simp only [jsonparser_decodeUnicodeEscape.j0]
      split
      · exact ⟨_, _, rfl, by omega, .inr (.inl ⟨rfl, h6⟩)⟩
      · rw [if_pos (by omega)]
        obtain ⟨r2, b2, e2, hr2, hb2⟩ := single_total k (l.drop 6)
        rw [e2, Option.bind_some]
        cases b2 with
        | false => exact ⟨_, _, rfl, by omega, .inl rfl⟩
        | true =>
          have h12 := hb2 rfl
          rw [List.length_drop] at h12
          rw [if_pos rfl]
          split
          · exact ⟨_, _, rfl, by omega, .inr (.inl ⟨rfl, h6⟩)⟩
          · split
            · exact ⟨_, _, rfl, by omega, .inr (.inl ⟨rfl, h6⟩)⟩
            · unfold jsonparser_combineUTF16Surrogates.f
              rw [Option.bind_some]
              exact ⟨_, _, rfl, w32_in _, .inr (.inr ⟨rfl, by omega⟩)⟩
    have hu : ∃ t, jsonparser_isUTF16EncodedRune.f r = some t := by
      unfold jsonparser_isUTF16EncodedRune.f
      split <;> exact ⟨_, rfl⟩
    obtain ⟨t, ht⟩ := hu
    rw [ht, Option.bind_some]
    split
    · split
      · exact ⟨_, _, rfl, by omega, .inr (.inl ⟨rfl, h6⟩)⟩
      · split
        · exact j0 _
        · rename_i h8
          rw [if_pos (by omega)]
          split
          · rw [if_pos (by omega)]
            exact j0 _
          · exact j0 _
    · exact ⟨_, _, rfl, hr, .inr (.inl ⟨rfl, h6⟩)⟩
end MjsonparserdecodeUnicodeEscape
end Go.Proofs.YtnidncohhinjbaaDoor
