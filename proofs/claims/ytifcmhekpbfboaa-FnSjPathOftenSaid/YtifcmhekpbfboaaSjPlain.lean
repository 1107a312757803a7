/- What sjson's parsePath computes, in plain Lean, and its walk. Condition: the text takes at most 2^47 - 4096 bytes. -/
import Derived.Test.YtifcmhekpbfboaaProg
import Derived.Test.YtifcmhekpbfboaaBrow
import Derived.WalkKit
import Derived.WalkSpells
import Derived.WalkMore
import Derived.Lib.Hide
import Derived.Outline
import Derived.Deep.LoopGhost
import Derived.BigQuiet
import Derived.Deep.QuietTactic
import Derived.Deep.DeepCutAuto
import Derived.Deep.CutBlock
namespace Go.Proofs.Ytifcmhekpbfboaa
open Go.RowKit

abbrev PRes := List UInt8 × List UInt8 × List UInt8 × Bool

def simpleC (c : UInt8) : Bool := !(c == 124 || c == 35 || c == 64 || c == 42 || c == 63)

/-- Behind the first backslash. -/
def ppE (ep gp : List UInt8) : List UInt8 → Option PRes
  | [] => some (ep, gp, [], false)
  | c :: r =>
    if c = 92 then (match r with
      | [] => some (ep, gp ++ [92], [], false)
      | d :: r' => ppE (ep ++ [d]) (gp ++ [92] ++ [d]) r')
    else if c = 46 then some (ep, gp, r, true)
    else if simpleC c = true then ppE (ep ++ [c]) (gp ++ [c]) r else none

/-- Ahead of it. -/
def ppS (pre : List UInt8) : List UInt8 → Option PRes
  | [] => some (pre, pre, [], false)
  | c :: r =>
    if c = 46 then some (pre, pre, r, true)
    else if simpleC c = true then (if c = 92 then (match r with
      | [] => some (pre, pre ++ [92], [], false)
      | d :: r' => ppE (pre ++ [d]) (pre ++ [92] ++ [d]) r') else ppS (pre ++ [c]) r)
    else none

def BA (l : List UInt8) : ByteArray := ⟨l.toArray⟩

def resV (o : Option PRes) (fc : Bool) : Value :=
  match o with
  | some (p, g, r, m) => .tuple #[.agg #[.string (BA p), .string (BA g), .string (BA r), .bool fc, .bool m], .bool true]
  | none => .tuple #[.agg #[.string ⟨#[]⟩, .string ⟨#[]⟩, .string ⟨#[]⟩, .bool fc, .bool false], .bool false]

def PPost (o : Option PRes) (fc : Bool) (w : World) : Ending → World → Prop := fun e w' => e = .returned (resV o fc) ∧ Below w.heap.size w w'

theorem ba_extract (t : ByteArray) (i j : Nat) : t.extract i j = BA ((t.data.toList.take j).drop i) := by
  apply ByteArray.ext
  simp only [BA, ByteArray.data_extract]
  rw [← Array.toList_inj]
  simp [Array.toList_extract, List.extract_eq_take_drop, List.drop_take]
theorem ba_head (t : ByteArray) (j : Nat) : t.extract 0 j = BA (t.data.toList.take j) := by rw [ba_extract]; simp
theorem ba_tail (t : ByteArray) (i : Nat) : t.extract i t.size = BA (t.data.toList.drop i) := by
  have hl : t.data.toList.length = t.size := by rw [Array.length_toList]; rfl
  rw [ba_extract, ← hl, List.take_length]
theorem ba_drop {t : ByteArray} {i : Nat} (h : i < t.size) : t.data.toList.drop i = t[i] :: t.data.toList.drop (i + 1) := by
  have hl : t.data.toList.length = t.size := by rw [Array.length_toList]; rfl
  rw [List.drop_eq_getElem_cons (by omega)]
  rfl
theorem ba_take {t : ByteArray} {i : Nat} (h : i < t.size) : t.data.toList.take (i + 1) = t.data.toList.take i ++ [t[i]] := by
  have hl : t.data.toList.length = t.size := by rw [Array.length_toList]; rfl
  rw [List.take_add_one, List.getElem?_eq_getElem (by omega)]
  rfl
theorem ba_end {t : ByteArray} {i : Nat} (h : t.size ≤ i) : t.data.toList.drop i = [] := by
  have hl : t.data.toList.length = t.size := by rw [Array.length_toList]; rfl
  exact List.drop_eq_nil_of_le (by omega)

theorem u8b_not {c : UInt8} {n : Nat} (hn : n < 256) (h : c ≠ UInt8.ofNat n) : ((c.toNat : Int) == (n : Int)) = false := by
  rw [beq_eq_false_iff_ne]
  intro e
  exact h (UInt8.toNat_inj.1 (by rw [UInt8.toNat_ofNat']; omega))

theorem isSimple_any (c : UInt8) (w : World) : Calls Try.prog 56 #[.int .u8 (c.toNat : Int)] w fun e w' => e = .returned (.bool (simpleC c)) ∧ w' = w := by
  go_enter Try.func56, Try.ntmps56
  by_cases h1 : c = 124
  · subst h1; go_wp2; go_ret; exact ⟨rfl, rfl⟩
  · by_cases h2 : c = 35
    · subst h2; go_wp2; go_ret; exact ⟨rfl, rfl⟩
    · by_cases h3 : c = 64
      · subst h3; go_wp2; go_ret; exact ⟨rfl, rfl⟩
      · by_cases h4 : c = 42
        · subst h4; go_wp2; go_ret; exact ⟨rfl, rfl⟩
        · by_cases h5 : c = 63
          · subst h5; go_wp2; go_ret; exact ⟨rfl, rfl⟩
          · have e1 : ((c.toNat : Int) == 124) = false := u8b_not (n := 124) (by decide) h1
            have e2 : ((c.toNat : Int) == 35) = false := u8b_not (n := 35) (by decide) h2
            have e3 : ((c.toNat : Int) == 64) = false := u8b_not (n := 64) (by decide) h3
            have e4 : ((c.toNat : Int) == 42) = false := u8b_not (n := 42) (by decide) h4
            have e5 : ((c.toNat : Int) == 63) = false := u8b_not (n := 63) (by decide) h5
            have hS : simpleC c = true := by simp [simpleC, h1, h2, h3, h4, h5]
            rw [hS]
            go_wp2
            go_ret
            exact ⟨rfl, rfl⟩
end Go.Proofs.Ytifcmhekpbfboaa
