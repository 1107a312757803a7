/- The contract of impl.SjPath: a path's first component. Condition: the text takes at most 2^47 - 4096 bytes (in the list function). -/
import Derived.Test.YtifcmhekpbfboaaSjWalk
namespace Go.Proofs.Ytifcmhekpbfboaa
open Go.RowKit

def colonOf (s : ByteArray) : Bool := if h : 0 < s.size then (if s[0] = 58 then true else false) else false
def ppOf (s : ByteArray) : Option PRes := ppS [] (if colonOf s = true then s.extract 1 s.size else s).data.toList
def sjTuple (o : Option PRes) (fc : Bool) : ByteArray × ByteArray × ByteArray × Bool × Bool × Bool :=
  match o with
  | some (p, g, r, m) => (BA p, BA g, BA r, fc, m, true)
  | none => (⟨#[]⟩, ⟨#[]⟩, ⟨#[]⟩, fc, false, false)
def impl_SjPath.f (s : ByteArray) : Option (ByteArray × ByteArray × ByteArray × Bool × Bool × Bool) := if s.size ≤ 140737488351232 then some (sjTuple (ppOf s) (colonOf s)) else none

theorem pp_calls (s : ByteArray) (hs : s.size ≤ 140737488351232) (w : World) : Calls Try.prog 50 #[.string s] w (PPost (ppOf s) (colonOf s) w) :=
  parsePath_any s (if colonOf s = true then s.extract 1 s.size else s) (colonOf s) (ppOf s) w hs rfl rfl rfl

theorem resV_eq (o : Option PRes) (fc : Bool) : resV o fc = .tuple #[.agg #[.string (sjTuple o fc).1, .string (sjTuple o fc).2.1, .string (sjTuple o fc).2.2.1, .bool (sjTuple o fc).2.2.2.1, .bool (sjTuple o fc).2.2.2.2.1], .bool (sjTuple o fc).2.2.2.2.2] := by
  cases o with
  | none => rfl
  | some x => rfl

theorem results_tmp6 {fn : Func} {t1 t2 t3 t4 t5 t6 : Tmp} (h : fn.results = #[.tmp t1, .tmp t2, .tmp t3, .tmp t4, .tmp t5, .tmp t6]) (tmps : Array Value) (P : Program) (w : World) :
    (results fn tmps).run P w = .ok (.tuple #[tmps.getD t1 undef, tmps.getD t2 undef, tmps.getD t3 undef, tmps.getD t4 undef, tmps.getD t5 undef, tmps.getD t6 undef]) w := by
  simp [results, h]

theorem sj_drewN {B : Nat} {a w : World} (h : Below B a w) (n : Nat) : Below B a (w.drewN n) := h.trans ⟨rfl, rfl, rfl, Nat.le_refl _, fun _ _ => rfl⟩

def DPost (r1 r2 r3 : ByteArray) (r4 r5 r6 : Bool) (w : World) : Ending → World → Prop := fun e w' => e = .returned (.tuple #[.string r1, .string r2, .string r3, .bool r4, .bool r5, .bool r6]) ∧ Below w.heap.size w w'

set_option maxHeartbeats 4000000 in
theorem doorPath_any (s r1 r2 r3 : ByteArray) (r4 r5 r6 : Bool) (h : sjTuple (ppOf s) (colonOf s) = (r1, r2, r3, r4, r5, r6)) (hs : s.size ≤ 140737488351232) (w : World) :
    Calls Try.prog 36 #[.string s] w (DPost r1 r2 r3 r4 r5 r6 w) := by
  have HC : Hid (∀ w, Calls Try.prog 50 #[.string s] w fun e w' => e = .returned (.tuple #[.agg #[.string r1, .string r2, .string r3, .bool r4, .bool r5], .bool r6]) ∧ Below w.heap.size w w') :=
    Lib.hid fun w => (pp_calls s hs w).mono fun e w' ⟨he, hb⟩ => ⟨by rw [he, resV_eq, h], hb⟩
  clear h hs
  go_enter Try.func36, Try.ntmps36
  go_wp2_with (first | (go_at_call 50; refine (HC.out _).mono ?_; rintro e w' ⟨rfl, hb⟩) | fail)
  go_quiet (fail)
  go_wp2
  (try simp only [Exit.inBlock, Exit.then])
  refine bodyPost_ret (results_tmp6 rfl _ _ _) rfl ?_
  exact ⟨rfl, sj_drewN (hb.alloc hb.size _) _⟩

set_option maxHeartbeats 4000000 in
theorem impl_SjPath.calls (s r1 r2 r3 : ByteArray) (r4 r5 r6 : Bool) (w : World) (h : impl_SjPath.f s = some (r1, r2, r3, r4, r5, r6)) :
    Calls Try.prog 22 #[.string s] w fun e w' => e = .returned (.tuple #[.string r1, .string r2, .string r3, .bool r4, .bool r5, .bool r6]) ∧ Below w.heap.size w w' := by
  unfold impl_SjPath.f at h
  by_cases hs : s.size ≤ 140737488351232
  · rw [if_pos hs] at h
    have HC := Lib.hid fun w => doorPath_any s r1 r2 r3 r4 r5 r6 (Option.some.inj h) hs w
    clear h hs
    go_enter Try.func22, Try.ntmps22
    go_wp2_with (first | (go_at_call 36; refine (HC.out _).mono ?_; rintro e w' ⟨rfl, hb⟩) | fail)
    (try simp only [Exit.inBlock, Exit.then])
    refine bodyPost_ret (results_tmp6 rfl _ _ _) rfl ?_
    exact ⟨rfl, hb⟩
  · rw [if_neg hs] at h
    cases h
end Go.Proofs.Ytifcmhekpbfboaa
