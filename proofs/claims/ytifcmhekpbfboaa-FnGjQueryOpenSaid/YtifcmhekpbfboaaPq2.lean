/- gjson's parseQuery, in the form in which its callers meet it. Condition: the text takes at most 2^47 - 4096 bytes (in the list function). -/
import Derived.Test.YtifcmhekpbfboaaPq
namespace Go.Proofs.Ytifcmhekpbfboaa
open Go.RowKit

def gjson_parseQuery.f (s : ByteArray) : Option (ByteArray × ByteArray × ByteArray × ByteArray × Int × Bool × Bool) :=
  if s.size ≤ 140737488351232 then some ((qOf s).1, (qOf s).2.1, (qOf s).2.2.1, (qOf s).2.2.2.1, ((qOf s).2.2.2.2.1 : Int), (qOf s).2.2.2.2.2.1, (qOf s).2.2.2.2.2.2) else none

theorem gjson_parseQuery.calls (s : ByteArray) (r1 r2 r3 r4 : ByteArray) (r5 : Int) (r6 r7 : Bool) (w : World) (h : gjson_parseQuery.f s = some (r1, r2, r3, r4, r5, r6, r7)) :
    Calls Try.prog 52 #[.string s] w fun e w' => e = .returned (.tuple #[.string r1, .string r2, .string r3, .string r4, .int .i64 r5, .bool r6, .bool r7]) ∧ Below w.heap.size w w' := by
  unfold gjson_parseQuery.f at h
  by_cases hs : s.size ≤ 140737488351232
  · rw [if_pos hs] at h
    simp only [Option.some.injEq, Prod.mk.injEq] at h
    obtain ⟨rfl, rfl, rfl, rfl, rfl, rfl, rfl⟩ := h
    cases hq : qHead s with
    | true => exact query_yes s w hs hq
    | false => exact query_no s w hs hq
  · rw [if_neg hs] at h; simp at h

end Go.Proofs.Ytifcmhekpbfboaa
