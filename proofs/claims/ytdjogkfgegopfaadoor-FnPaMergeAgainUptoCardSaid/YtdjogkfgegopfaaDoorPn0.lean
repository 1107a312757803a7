/- The walk of spec.IsNumber, out of the printed reader.number; given to the print as spec_IsNumber. No condition. -/
import Derived.Test.YtdjogkfgegopfaaDoorMspecreadernumber1
import Derived.WalkKit
import Derived.WalkSpells
import Derived.WalkMore
import Derived.WalkSmall
import Derived.Lib.Hide
import Derived.Outline
namespace Go.Proofs.YtdjogkfgegopfaaDoor
open Go.RowKit Go.Proofs.YtdjogkfgegopfaaDoor.Mspecreadernumber Go.Proofs.YtdjogkfgegopfaaDoorW.PrintWords Go.Proofs.YtdjogkfgegopfaaDoorW.PrintLast

theorem isNumber_calls (k : Nat) (s : ByteArray) (b : Bool) (s' : ByteArray) (q : Int) (W : World) (h : spec_reader_number.f k s 0 = some (b, s', q)) :
    Calls Tryd.prog 44 #[.string s] W fun e w' => e = .returned (.bool (b && (q == (s.size : Int)))) ∧ Below W.heap.size W w' := by
  have HI : IsS92 W (W.alloc (.cells #[.string s, .int .i64 0] 92)) W.heap.size s 0 := ⟨(Go.MapKept.heap_alloc _ _).1, Nat.le_refl _⟩
  have HB : Below W.heap.size W (W.alloc (.cells #[.string s, .int .i64 0] 92)) := below_alloc (Below.refl _ _) _
  have HC := Lib.hid (spec_reader_number.calls k W.heap.size s 0 b s' q W _ HI HB h)
  clear HI HB h
  cases b with
  | true =>
    go_enter Tryd.func44, Tryd.ntmps44
    go_wp2_with (first | (go_at_call 57; refine HC.out.mono ?_; rintro e w1 ⟨rfl, hi, hb, hk⟩; have HB := Lib.hid hb; have hc0 := cellS92_1 hi.1; clear hi hb hk) | fail)
    go_ret
    exact ⟨by simp, HB.out⟩
  | false =>
    go_enter Tryd.func44, Tryd.ntmps44
    go_wp2_with (first | (go_at_call 57; refine HC.out.mono ?_; rintro e w1 ⟨rfl, hi, hb, hk⟩; have HB := Lib.hid hb; have hc0 := cellS92_1 hi.1; clear hi hb hk) | fail)
    go_ret
    exact ⟨by simp, HB.out⟩
/-- spec.IsNumber, given to the print. -/
def spec_IsNumber.f (k : Nat) (s : ByteArray) : Option Bool := (spec_reader_number.f k s 0).bind fun r => some (r.1 && (r.2.2 == (s.size : Int)))
theorem spec_IsNumber.mono : ∀ a0 k, LeO (spec_IsNumber.f k a0) (spec_IsNumber.f (k + 1) a0) := by
  intro a0 k
  exact LeO.bind (spec_reader_number.mono _ _ _) (fun _ => LeO.refl _)
theorem spec_IsNumber.calls (k : Nat) (a0 : ByteArray) (r : Bool) (w : World) (h : spec_IsNumber.f k a0 = some r) :
    Calls Tryd.prog 44 #[.string a0] w fun e w' => e = .returned (.bool r) ∧ Below w.heap.size w w' := by
  unfold spec_IsNumber.f at h
  obtain ⟨⟨b, s', q⟩, h1, h2⟩ := Option.bind_eq_some_iff.1 h
  simp only [Option.some.injEq] at h2
  subst h2
  exact isNumber_calls k a0 b s' q w h1
end Go.Proofs.YtdjogkfgegopfaaDoor
