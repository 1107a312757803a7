/- What match's inner function computes, as a function of lists with a number of rounds: the counter goes in and comes out. No condition; no memory in sight. -/
import Derived.Test.YtifcmhekpbfboaaDoorU8Gl
import Derived.Test.YtifcmhekpbfboaaDoorMmatchmatchTrimSuffix1
namespace Go.Proofs.YtifcmhekpbfboaaDoor
open Go.RowKit Go.Proofs.YtifcmhekpbfboaaDoor.MmatchmatchTrimSuffix

def hd1 (s : ByteArray) : Nat := (Lib.decodeGo s).1
def hd2 (s : ByteArray) : Nat := (Lib.decodeGo s).2
def scz (s : ByteArray) : Nat := if s.size = 0 then 0 else hd1 s
def ssz (s : ByteArray) : Nat := if s.size = 0 then 0 else hd2 s

/-- Stars behind the first star are gone over. -/
def skipS : Nat → ByteArray → Option ByteArray
  | 0, _ => none
  | k + 1, p => if h : 1 < p.size then (if p[1] = 42 then skipS k (p.extract 1 p.size) else some p) else some p

def mloop : Nat → Int → ByteArray → ByteArray → Int → Option (Int × Int)
  | 0, _, _, _, _ => none
  | k + 1, L, s, p, c =>
    if p.size = 0 then some (if s.size = 0 then 1 else 0, c)
    else if hd1 p = 63 then
      (if ssz s = 0 then some (0, c) else if ssz s ≤ s.size then (if hd2 p ≤ p.size then mloop k L (s.extract (ssz s) s.size) (p.extract (hd2 p) p.size) c else none) else none)
    else if hd1 p = 42 then
      (skipS k p).bind fun p1 => if p1.size = 1 then some (1, c) else (match_matchTrimSuffix.f k s p1 false).bind fun t =>
        if t.2.2 = true then
          (if t.2.1.size = 1 then some (1, c) else if ¬ (1 < t.2.1.size ∧ t.1.size ≤ s.size ∧ t.2.1.size ≤ p1.size ∧ p1.size ≤ p.size) then none else
            (if 0 ≤ c then (if L < c then some (2, c) else mloop k L t.1 (t.2.1.extract 1 t.2.1.size) (c + 1)) else none).bind fun rc =>
              if rc.1 = 0 then (if t.1.size = 0 then some (0, rc.2) else if ssz s ≤ t.1.size then mloop k L (t.1.extract (ssz s) t.1.size) t.2.1 rc.2 else none) else some rc)
        else some (0, c)
    else if ssz s = 0 then some (0, c)
    else if hd1 p = 92 then
      (if hd2 p ≤ p.size then
        (if hd2 (p.extract (hd2 p) p.size) = 0 then some (0, c)
        else if scz s = hd1 (p.extract (hd2 p) p.size) then
          (if ssz s ≤ s.size then (if hd2 (p.extract (hd2 p) p.size) ≤ (p.extract (hd2 p) p.size).size then
            mloop k L (s.extract (ssz s) s.size) ((p.extract (hd2 p) p.size).extract (hd2 (p.extract (hd2 p) p.size)) (p.extract (hd2 p) p.size).size) c else none) else none)
        else some (0, c))
      else none)
    else if scz s = hd1 p then (if ssz s ≤ s.size then (if hd2 p ≤ p.size then mloop k L (s.extract (ssz s) s.size) (p.extract (hd2 p) p.size) c else none) else none)
    else some (0, c)

def mfun (k : Nat) (L : Int) (s p : ByteArray) (c : Int) : Option (Int × Int) := if 0 ≤ c then (if L < c then some (2, c) else mloop k L s p (c + 1)) else none

end Go.Proofs.YtifcmhekpbfboaaDoor
