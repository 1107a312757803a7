/- The contracts of jsonparser's stringEnd, of its door and of impl.JpStringEnd: what the search for a string's end tells. Condition: the configuration's variable can be read. -/
import Derived.Test.YtifcmhekpbfboaaDoorJsGl
import Derived.Test.YtifcmhekpbfboaaDoorJsStrEnd
import Derived.Test.YtifcmhekpbfboaaDoorWWords
import Derived.Test.YtifcmhekpbfboaaDoorWLast
import Derived.Test.YtifcmhekpbfboaaDoorWInv
import Derived.WalkKit
import Derived.Deep.QuietTactic
import Derived.BigQuiet
import Derived.Lib.Hide
import Derived.WalkSmall
namespace Go.Proofs.YtifcmhekpbfboaaDoor
open Go.RowKit Go.Proofs.YtifcmhekpbfboaaDoorW.PrintWords Go.Proofs.YtifcmhekpbfboaaDoorW.PrintLast

set_option maxHeartbeats 1000000 in
theorem stringEnd_any (g o c : Nat) (l : List UInt8) (w : World) (hl : l.length ≤ 140737488351232) (hc : l.length ≤ c) (hr : Cells w g o l) (hG : GLCfg w) :
    Calls Tryd.prog 23 #[.slice (some ⟨g, o, none⟩) l.length c] w (StrEndPost 34 l w) := by
  obtain ⟨x0, x1, x2, h0, h1, h2⟩ := hG
  have HC := Lib.hid fun (cf : Array Value) (hcf : cf.size = 3) => strEnd_any 34 (.inl rfl) cf hcf g o c l w hl hc hr
  clear hr
  go_enter Tryd.func23, Tryd.ntmps23
  go_wp2_with (go_at_call 33; refine (HC.out _ rfl).mono ?_; rintro e w' ⟨rfl, hb⟩)
  go_ret2
  exact ⟨rfl, hb⟩

def impl_JpStringEnd.f (s : ByteArray) : Option (Int × Bool) := if s.size ≤ 140737488351232 then some (strEnd 34 s.data.toList) else none

/-- A text's bytes in memory. -/
theorem conv_cells (s : ByteArray) (w : World) (hs : s.size ≤ 140737488351232) : Cells (Lib.bytesWorld w 5 s) w.heap.size 0 s.data.toList := by
  obtain ⟨-, -, h⟩ := bytes_reads w 5 s (by omega)
  intro i hi
  have hi' : i < s.size := by simpa using hi
  obtain ⟨a, e, h⟩ := h (by omega)
  cases e
  have := h i hi'
  rw [add_plain] at this
  rw [Nat.zero_add, this]
  simp [bytesOf, List.getD_eq_getElem?_getD, List.getElem?_eq_getElem hi]

set_option maxHeartbeats 1000000 in
theorem impl_JpStringEnd.calls (s : ByteArray) (r1 : Int) (r2 : Bool) (w : World) (hG : GLCfg w) (h : impl_JpStringEnd.f s = some (r1, r2)) :
    Calls Tryd.prog 9 #[.string s] w fun e w' => e = .returned (.tuple #[.int .i64 r1, .bool r2]) ∧ Below w.heap.size w w' := by
  unfold impl_JpStringEnd.f at h
  by_cases hs : s.size ≤ 140737488351232
  · rw [if_pos hs] at h
    obtain ⟨z, hz⟩ : ∃ z, z = strEnd 34 s.data.toList := ⟨_, rfl⟩
    rw [← hz] at h
    simp only [Option.some.injEq] at h
    obtain rfl : z = (r1, r2) := h
    have hbw : Below w.heap.size w (Lib.bytesWorld w 5 s) := bytes_below (Below.refl _ _) (Nat.le_refl _) 5 s
    have kc := fun W => print_bytes (P := Tryd.prog) 9 43 5 Tryd.underlying9 Tryd.underlying43 Tryd.underlying5 s W
    have hl : s.data.toList.length = s.size := by simp
    have HC : Hid (Calls Tryd.prog 23 #[.slice (some ⟨w.heap.size, 0, none⟩) s.size (grownCap w s.size 0 5)] (Lib.bytesWorld w 5 s) (fun e w' => e = .returned (.tuple #[.int .i64 r1, .bool r2]) ∧ Below (Lib.bytesWorld w 5 s).heap.size (Lib.bytesWorld w 5 s) w')) := Lib.hid (by
      have := stringEnd_any w.heap.size 0 (grownCap w s.size 0 5) s.data.toList (Lib.bytesWorld w 5 s) (by omega) (by rw [hl]; exact grownCap_ge w s.size 0 5) (conv_cells s w hs) (hG.keep hbw)
      rw [hl] at this
      refine this.mono ?_
      rintro e w' ⟨h1, h2⟩
      rw [← hz] at h1
      exact ⟨h1, h2⟩)
    have HBW := Lib.hid hbw
    clear hs hG hbw hl hz
    go_enter Tryd.func9, Tryd.ntmps9
    go_wp2_with (first | (go_at_call 23; refine HC.out.mono ?_; rintro e w' ⟨rfl, hb⟩) | go_in)
    go_ret2
    exact ⟨rfl, HBW.out.trans (hb.mono HBW.out.size)⟩
  · rw [if_neg hs] at h; simp at h

end Go.Proofs.YtifcmhekpbfboaaDoor
