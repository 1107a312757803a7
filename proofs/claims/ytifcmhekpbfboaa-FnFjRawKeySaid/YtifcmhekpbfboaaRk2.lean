/- The contract of impl.FjRawKey: the inside of a name up to its closing quotation mark and the rest, or false. Condition: the text takes at most 2^47 - 4096 bytes (in the list function). -/
import Derived.Test.YtifcmhekpbfboaaRk
namespace Go.Proofs.Ytifcmhekpbfboaa
open Go.RowKit

def rawKeyOf (s : ByteArray) : ByteArray × ByteArray × Bool :=
  match closeL s.data.toList with
  | some k => (s.extract 0 k, s.extract (k + 1) s.size, true)
  | none => (⟨#[]⟩, ⟨#[]⟩, false)

def impl_FjRawKey.f (s : ByteArray) : Option (ByteArray × ByteArray × Bool) := if s.size ≤ 140737488351232 then some (rawKeyOf s) else none

set_option maxHeartbeats 1000000 in
theorem doorRawKey_yes {s : ByteArray} {k : Nat} (hs : s.size ≤ 140737488351232) (hc : closeL s.data.toList = some k) (w : World) : Calls Try.prog 33 #[.string s] w (RawYes s k w) := by
  have HK : Hid (∀ w, Calls Try.prog 49 #[.string s] w (RawYes s k w)) := Lib.hid fun w => (rawKey_any s w hs fun w => rawString_any s w hs).mono fun e w' h => raw_yes h hc
  clear hc hs
  go_enter Try.func33, Try.ntmps33
  go_wp2_with (go_at_call 49; refine (HK.out _).mono ?_; rintro e w' ⟨rfl, hb⟩)
  go_ret3
  exact ⟨rfl, hb⟩

set_option maxHeartbeats 1000000 in
theorem doorRawKey_no {s : ByteArray} (hs : s.size ≤ 140737488351232) (hc : closeL s.data.toList = none) (w : World) : Calls Try.prog 33 #[.string s] w (RawNo w) := by
  have HK : Hid (∀ w, Calls Try.prog 49 #[.string s] w (RawNo w)) := Lib.hid fun w => (rawKey_any s w hs fun w => rawString_any s w hs).mono fun e w' h => raw_no h hc
  clear hc hs
  go_enter Try.func33, Try.ntmps33
  go_wp2_with (go_at_call 49; refine (HK.out _).mono ?_; rintro e w' ⟨a, b, t, v, rfl, hb⟩)
  go_ret3
  exact ⟨_, _, _, _, rfl, hb⟩

set_option maxHeartbeats 1000000 in
theorem impl_FjRawKey.calls (s r1 r2 : ByteArray) (r3 : Bool) (w : World) (h : impl_FjRawKey.f s = some (r1, r2, r3)) :
    Calls Try.prog 18 #[.string s] w fun e w' => e = .returned (.tuple #[.string r1, .string r2, .bool r3]) ∧ Below w.heap.size w w' := by
  unfold impl_FjRawKey.f at h
  by_cases hs : s.size ≤ 140737488351232
  · rw [if_pos hs] at h
    cases hc : closeL s.data.toList with
    | some k =>
      have HD : Hid (∀ w, Calls Try.prog 33 #[.string s] w (RawYes s k w)) := Lib.hid (doorRawKey_yes hs hc)
      unfold rawKeyOf at h
      rw [hc] at h
      simp only [Option.some.injEq, Prod.mk.injEq] at h
      obtain ⟨rfl, rfl, rfl⟩ := h
      clear hc hs
      go_enter Try.func18, Try.ntmps18
      go_wp2_with (go_at_call 33; refine (HD.out _).mono ?_; rintro e w' ⟨rfl, hb⟩)
      go_ret3
      exact ⟨rfl, hb⟩
    | none =>
      have HD : Hid (∀ w, Calls Try.prog 33 #[.string s] w (RawNo w)) := Lib.hid (doorRawKey_no hs hc)
      unfold rawKeyOf at h
      rw [hc] at h
      simp only [Option.some.injEq, Prod.mk.injEq] at h
      obtain ⟨rfl, rfl, rfl⟩ := h
      clear hc hs
      go_enter Try.func18, Try.ntmps18
      go_wp2_with (go_at_call 33; refine (HD.out _).mono ?_; rintro e w' ⟨a, b, t, v, rfl, hb⟩)
      go_ret3
      exact ⟨rfl, hb⟩
  · rw [if_neg hs] at h; simp at h

end Go.Proofs.Ytifcmhekpbfboaa
