/- The walk of gjson's parseQuery: a query's parts, as functions of the text. Condition: the text takes at most 2^47 - 4096 bytes (in the list function). -/
import Derived.Test.YtifcmhekpbfboaaTrim
import Derived.Deep.QuietTactic
import Derived.BigQuiet
import Derived.Deep.DeepCutAuto
import Derived.Deep.CutBlock
import Derived.Deep.LoopGhost
import Derived.IntWalk
import Derived.Test.YtifcmhekpbfboaaWWords
namespace Go.Proofs.Ytifcmhekpbfboaa
open Go.RowKit
open Go.Proofs.YtifcmhekpbfboaaW.PrintWords (results_list)

def byteAt (s : ByteArray) (i : Nat) : Nat := if h : i < s.size then s[i].toNat else 0
theorem byteAt_eq {s : ByteArray} {i : Nat} (h : i < s.size) : s[i].toNat = byteAt s i := by unfold byteAt; rw [dif_pos h]
theorem byteAt_le (s : ByteArray) (i : Nat) : byteAt s i ≤ 255 := by
  unfold byteAt
  split
  · have := UInt8.toNat_lt (s[i]); omega
  · omega

/-- Within a string: to its end. -/
def qStr (s : ByteArray) : Nat → Nat → Bool → Nat × Bool
  | 0, i, v => (i, v)
  | k + 1, i, v => if i < s.size then (if byteAt s i = 92 then qStr s k (i + 2) true else if byteAt s i = 34 then (i, v) else qStr s k (i + 1) v) else (i, v)

def qOp (c : Nat) : Bool := c == 33 || c == 61 || c == 60 || c == 62 || c == 37

/-- To the bracket that closes: the place, the place of the operator, the depth, whether an escape stands in a string. -/
def qLoop (s : ByteArray) : Nat → Nat → Nat → Nat → Bool → Nat × Nat × Nat × Bool
  | 0, i, j, d, v => (i, j, d, v)
  | k + 1, i, j, d, v =>
    if i < s.size then
      if d = 1 ∧ j = 0 ∧ qOp (byteAt s i) = true then qLoop s k (i + 1) i d v
      else if byteAt s i = 92 then qLoop s k (i + 2) j d v
      else if byteAt s i = 91 ∨ byteAt s i = 40 then qLoop s k (i + 1) j (d + 1) v
      else if byteAt s i = 93 ∨ byteAt s i = 41 then (if d = 1 then (i, j, 0, v) else qLoop s k (i + 1) j (d - 1) v)
      else if byteAt s i = 34 then qLoop s k ((qStr s (s.size + 2) (i + 1) v).1 + 1) j d (qStr s (s.size + 2) (i + 1) v).2
      else qLoop s k (i + 1) j d v
    else (i, j, d, v)

/-- How many bytes the operator has, and the value from it on. -/
def qSel (v : ByteArray) : ByteArray × Nat :=
  if v.size = 1 then (v, 1)
  else if byteAt v 0 = 33 ∧ byteAt v 1 = 61 then (v, 2)
  else if byteAt v 0 = 33 ∧ byteAt v 1 = 37 then (v, 2)
  else if byteAt v 0 = 60 ∧ byteAt v 1 = 61 then (v, 2)
  else if byteAt v 0 = 62 ∧ byteAt v 1 = 61 then (v, 2)
  else if byteAt v 0 = 61 ∧ byteAt v 1 = 61 then (v.extract 1 v.size, 1)
  else if byteAt v 0 = 60 then (v, 1)
  else if byteAt v 0 = 62 then (v, 1)
  else if byteAt v 0 = 61 then (v, 1)
  else if byteAt v 0 = 37 then (v, 1)
  else (v, 0)

abbrev QR := ByteArray × ByteArray × ByteArray × ByteArray × Nat × Bool × Bool

def qEnd (s : ByteArray) (r : Nat × Nat × Nat × Bool) : QR :=
  if 0 < r.2.2.1 then (⟨#[]⟩, ⟨#[]⟩, ⟨#[]⟩, ⟨#[]⟩, r.1, false, false)
  else if 0 < r.2.1 then
    (trimS (s.extract 2 r.2.1), (qSel (trimS (s.extract r.2.1 r.1))).1.extract 0 (qSel (trimS (s.extract r.2.1 r.1))).2,
      trimS ((qSel (trimS (s.extract r.2.1 r.1))).1.extract (qSel (trimS (s.extract r.2.1 r.1))).2 (qSel (trimS (s.extract r.2.1 r.1))).1.size), s.extract (r.1 + 1) s.size, r.1 + 1, r.2.2.2, true)
  else (trimS (s.extract 2 r.1), ⟨#[]⟩, ⟨#[]⟩, s.extract (r.1 + 1) s.size, r.1 + 1, r.2.2.2, true)

def qHead (s : ByteArray) : Bool := decide (2 ≤ s.size) && byteAt s 0 == 35 && (byteAt s 1 == 40 || byteAt s 1 == 91)
def qOf (s : ByteArray) : QR := if qHead s = true then qEnd s (qLoop s (s.size + 2) 2 0 1 false) else (⟨#[]⟩, ⟨#[]⟩, ⟨#[]⟩, ⟨#[]⟩, 0, false, false)

def QRet (r : QR) (w : World) (e : Ending) (w' : World) : Prop :=
  e = .returned (.tuple #[.string r.1, .string r.2.1, .string r.2.2.1, .string r.2.2.2.1, .int .i64 (r.2.2.2.2.1 : Nat), .bool r.2.2.2.2.2.1, .bool r.2.2.2.2.2.2]) ∧ Below w.heap.size w w'

set_option maxHeartbeats 4000000 in
set_option maxRecDepth 100000 in
theorem query_no (s : ByteArray) (w : World) (hs : s.size ≤ 140737488351232) (hq : qHead s = false) : Calls Try.prog 52 #[.string s] w (QRet (qOf s) w) := by
  have HQ : Hid (qOf s = (⟨#[]⟩, ⟨#[]⟩, ⟨#[]⟩, ⟨#[]⟩, 0, false, false)) := Lib.hid (by unfold qOf; rw [hq]; rfl)
  by_cases h2 : s.size < 2
  · clear hq
    go_enter Try.func52, Try.ntmps52
    go_wp2
    refine bodyPost_ret (results_list (rs := [.tmp 2, .tmp 3, .tmp 4, .tmp 5, .tmp 6, .tmp 7, .tmp 8]) rfl (by simp) (.tmp (.tmp (.tmp (.tmp (.tmp (.tmp (.tmp .nil)))))))) rfl ?_
    exact ⟨by rw [HQ.out]; rfl, Below.refl _ _⟩
  · obtain ⟨b0, hb0⟩ : ∃ b, b = byteAt s 0 := ⟨_, rfl⟩
    obtain ⟨b1, hb1⟩ : ∃ b, b = byteAt s 1 := ⟨_, rfl⟩
    have e0 : s[0].toNat = b0 := (byteAt_eq (show 0 < s.size by omega)).trans hb0.symm
    have e1 : s[1].toNat = b1 := (byteAt_eq (show 1 < s.size by omega)).trans hb1.symm
    have hn : ¬ (b0 = 35 ∧ (b1 = 40 ∨ b1 = 91)) := by
      rintro ⟨c0, c1⟩
      unfold qHead at hq
      rw [← hb0, ← hb1, c0] at hq
      rcases c1 with c1 | c1 <;> rw [c1] at hq <;> simp at hq <;> omega
    clear hq hb0 hb1
    by_cases c0 : b0 = 35
    · have d1 : ((b1 : Int) != 40) = true := by simp only [bne_iff_ne]; omega
      have d2 : ((b1 : Int) != 91) = true := by simp only [bne_iff_ne]; omega
      subst c0
      go_enter Try.func52, Try.ntmps52
      go_wp2
      refine bodyPost_ret (results_list (rs := [.tmp 2, .tmp 3, .tmp 4, .tmp 5, .tmp 6, .tmp 7, .tmp 8]) rfl (by simp) (.tmp (.tmp (.tmp (.tmp (.tmp (.tmp (.tmp .nil)))))))) rfl ?_
      exact ⟨by rw [HQ.out]; rfl, Below.refl _ _⟩
    · have d0 : ((b0 : Int) != 35) = true := by simp only [bne_iff_ne]; omega
      clear hn c0
      go_enter Try.func52, Try.ntmps52
      go_wp2
      refine bodyPost_ret (results_list (rs := [.tmp 2, .tmp 3, .tmp 4, .tmp 5, .tmp 6, .tmp 7, .tmp 8]) rfl (by simp) (.tmp (.tmp (.tmp (.tmp (.tmp (.tmp (.tmp .nil)))))))) rfl ?_
      exact ⟨by rw [HQ.out]; rfl, Below.refl _ _⟩

end Go.Proofs.Ytifcmhekpbfboaa
