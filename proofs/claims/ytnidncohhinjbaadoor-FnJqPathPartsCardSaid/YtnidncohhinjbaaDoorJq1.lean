/- What jsonparser's ParsePath reads of a text, in plain Lean; U tells what Unescape makes of a key's inside (none: an error). No condition. -/
import Derived.Test.YtnidncohhinjbaaDoorJq0
namespace Go.Proofs.YtnidncohhinjbaaDoor
open Go.RowKit

/-- Whether a backslash stands in a text. -/
def hasBs (p : ByteArray) : Bool := p.data.toList.contains 92
/-- The quoted key whose inside begins at cs, from place i on: its name, and the place behind it. -/
def qkL (U : ByteArray → Option ByteArray) : Nat → ByteArray → Nat → Nat → Option (ByteArray × Nat)
  | 0, _, _, _ => none
  | k + 1, p, cs, i =>
    if h : i < p.size then
      (if p[i] = 92 then (if i + 1 < p.size then qkL U k p cs (i + 2) else none)
      else if p[i] = 34 then (if hasBs (p.extract cs i) = true then (match U (p.extract cs i) with | some y => some (y, i + 1) | none => none) else some (p.extract cs i, i + 1))
      else if p[i].toNat < 32 then none else qkL U k p cs (i + 1))
    else none
def qkF (U : ByteArray → Option ByteArray) (p : ByteArray) (s : Nat) : Option (ByteArray × Nat) := qkL U (p.size + 1) p (s + 1) (s + 1)

/-- A bare key's end. -/
def keyEnd : Nat → ByteArray → Nat → Option Nat
  | 0, _, _ => none
  | k + 1, p, i => if h : i < p.size then (if p[i] = 46 then some i else if p[i] = 91 then some i else if p[i] = 93 then none else if p[i] = 34 then none else keyEnd k p (i + 1)) else some i

/-- The bracket components that follow. -/
def brsL : Nat → ByteArray → Nat → List ByteArray → Option (List ByteArray × Nat)
  | 0, _, _, _ => none
  | k + 1, p, i, acc => if h : i < p.size then (if p[i] = 91 then (match brF p i with | some (c, n) => brsL k p n (acc ++ [c]) | none => none) else some (acc, i)) else some (acc, i)

def pathL (U : ByteArray → Option ByteArray) : Nat → ByteArray → Nat → List ByteArray → Option (List ByteArray)
  | 0, _, _, _ => none
  | k + 1, p, i, acc =>
    if h : i < p.size then
      (let first : Option (List ByteArray × Nat) :=
        if p[i] = 46 then none
        else if p[i] = 34 then (match qkF U p i with | some (y, n) => some (acc ++ [y], n) | none => none)
        else if p[i] = 91 then some (acc, i)
        else (match keyEnd (p.size + 1) p i with | some e => if e = i then none else some (acc ++ [p.extract i e], e) | none => none)
      match first with
      | none => none
      | some (acc1, i1) => match brsL (p.size + 1) p i1 acc1 with
        | none => none
        | some (acc2, i2) => if h2 : i2 < p.size then (if p[i2] = 46 then (if i2 + 1 = p.size then none else pathL U k p (i2 + 1) acc2) else none) else (if acc2 = [] then none else some acc2))
    else (if acc = [] then none else some acc)

def pathBody (U : ByteArray → Option ByteArray) (p : ByteArray) : Option (List ByteArray) := if p.size = 0 then none else pathL U (p.size + 1) p 0 []
/-- ParsePath: the parts, or none for an error. -/
def pathF (U : ByteArray → Option ByteArray) (p : ByteArray) : Option (List ByteArray) :=
  if h : 0 < p.size then
    (if p[0] = 36 then
      (if h1 : 1 < p.size then (if p[1] = 46 then pathBody U (p.extract 2 p.size) else if p[1] = 91 then pathBody U (p.extract 1 p.size) else none) else some [])
    else pathBody U p)
  else none

theorem path_one (U : ByteArray → Option ByteArray) : pathF U ⟨#[36, 46, 97, 91, 48, 93]⟩ = some [⟨#[97]⟩, ⟨#[91, 48, 93]⟩] := by rfl
end Go.Proofs.YtnidncohhinjbaaDoor
