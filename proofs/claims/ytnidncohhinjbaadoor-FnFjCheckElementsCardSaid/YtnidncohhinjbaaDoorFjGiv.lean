/- What impl's doors FjCheckValue and FjCheckArray compute. Condition: the variable ErrSyntax holds an error. -/
import Derived.Test.YtnidncohhinjbaaDoorFjFix
namespace Go.Proofs.YtnidncohhinjbaaDoor
open Go.RowKit

def resOf (o : Option ByteArray) : ByteArray × Bool := match o with | some t => (t, true) | none => (⟨#[]⟩, false)
def impl_FjCheckValue.f (s : ByteArray) : Option (ByteArray × Bool) := if s.size ≤ 140737488351232 then some (resOf (valA s)) else none
def impl_FjCheckArray.f (s : ByteArray) : Option (ByteArray × Bool) := if s.size ≤ 140737488351232 then some (resOf (arrF valA s)) else none

set_option maxHeartbeats 1000000 in
theorem impl_FjCheckValue.calls (s : ByteArray) (r1 : ByteArray) (r2 : Bool) (w : World) (hG : GLErr w) (h : impl_FjCheckValue.f s = some (r1, r2)) :
    Calls Tryd.prog 31 #[.string s] w fun e w' => e = .returned (.tuple #[.string r1, .bool r2]) ∧ Below w.heap.size w w' := by
  unfold impl_FjCheckValue.f at h
  by_cases hs : s.size ≤ 140737488351232
  · rw [if_pos hs] at h
    have HC := Lib.hid (valA_calls.1 s w hs hG)
    generalize valA s = o at h HC
    clear hs hG
    cases o with
    | some t =>
      simp only [resOf, Option.some.injEq, Prod.mk.injEq] at h
      obtain ⟨rfl, rfl⟩ := h
      go_enter Tryd.func31, Tryd.ntmps31
      go_wp2_with (first | (go_at_call 67; refine HC.out.mono ?_; rintro e w' ⟨hb, rfl⟩) | go_in)
      go_ret2
      exact ⟨rfl, hb⟩
    | none =>
      simp only [resOf, Option.some.injEq, Prod.mk.injEq] at h
      obtain ⟨rfl, rfl⟩ := h
      go_enter Tryd.func31, Tryd.ntmps31
      go_wp2_with (first | (go_at_call 67; refine HC.out.mono ?_; rintro e w' ⟨hb, t, ty, p, rfl⟩) | go_in)
      go_ret2
      exact ⟨rfl, hb⟩
  · rw [if_neg hs] at h; simp at h

set_option maxHeartbeats 1000000 in
theorem impl_FjCheckArray.calls (s : ByteArray) (r1 : ByteArray) (r2 : Bool) (w : World) (hG : GLErr w) (h : impl_FjCheckArray.f s = some (r1, r2)) :
    Calls Tryd.prog 17 #[.string s] w fun e w' => e = .returned (.tuple #[.string r1, .bool r2]) ∧ Below w.heap.size w w' := by
  unfold impl_FjCheckArray.f at h
  by_cases hs : s.size ≤ 140737488351232
  · rw [if_pos hs] at h
    have HC := Lib.hid (arrA_any s w hs hG)
    generalize arrF valA s = o at h HC
    clear hs hG
    cases o with
    | some t =>
      simp only [resOf, Option.some.injEq, Prod.mk.injEq] at h
      obtain ⟨rfl, rfl⟩ := h
      go_enter Tryd.func17, Tryd.ntmps17
      go_wp2_with (first | (go_at_call 50; refine HC.out.mono ?_; rintro e w' ⟨hb, rfl⟩) | go_in)
      go_ret2
      exact ⟨rfl, hb⟩
    | none =>
      simp only [resOf, Option.some.injEq, Prod.mk.injEq] at h
      obtain ⟨rfl, rfl⟩ := h
      go_enter Tryd.func17, Tryd.ntmps17
      go_wp2_with (first | (go_at_call 50; refine HC.out.mono ?_; rintro e w' ⟨hb, t, ty, p, rfl⟩) | go_in)
      go_ret2
      exact ⟨rfl, hb⟩
  · rw [if_neg hs] at h; simp at h
end Go.Proofs.YtnidncohhinjbaaDoor
