/- The contracts of jsonparser.ParseInt and impl.JpParseInt, by what the inner parseInt tells. Condition: the two error variables hold errors. -/
import Derived.Test.YtifcmhekpbfboaaDoorGl
import Derived.Test.YtifcmhekpbfboaaDoorMjsonparserparseInt1
import Derived.WalkKit
import Derived.Deep.QuietTactic
import Derived.BigQuiet
import Derived.Lib.Hide
import Derived.WalkSmall
namespace Go.Proofs.YtifcmhekpbfboaaDoor
open Go.RowKit Go.Proofs.YtifcmhekpbfboaaDoorW.PrintWords Go.Proofs.YtifcmhekpbfboaaDoorW.PrintLast
open Go.Proofs.YtifcmhekpbfboaaDoor.MjsonparserparseInt (jsonparser_parseInt.f jsonparser_parseInt.calls)

def PiOk (r : Int) (w : World) (e : Ending) (w' : World) : Prop := e = .returned (.tuple #[.int .i64 r, .nilIface]) ∧ Below w.heap.size w w'
def PiErr (w : World) (e : Ending) (w' : World) : Prop := ∃ a, e = .returned (.tuple #[.int .i64 0, .iface 84 a]) ∧ Below w.heap.size w w'

set_option maxHeartbeats 1000000 in
theorem parseInt_ok (k : Nat) (P0 : Nat → Prop) (A : Option Addr) (c : Nat) (l : List Int) (r : Int) (o : Bool) (w : World) (hs : Kd.V (Kd.int .u8) 5 w w.heap.size (fun k_ => P0 k_) (.slice A l.length c) l)
    (h : jsonparser_parseInt.f k l = some (r, true, o)) : Calls Tryd.prog 15 #[.slice A l.length c] w (PiOk r w) := by
  have HC := Lib.hid (jsonparser_parseInt.calls k P0 A c l r true o w hs h)
  clear hs h
  go_enter Tryd.func15, Tryd.ntmps15
  go_wp2_with (go_at_call 22; refine HC.out.mono ?_; rintro e w' ⟨rfl, hb⟩)
  go_ret2
  exact ⟨rfl, hb⟩

set_option maxHeartbeats 1000000 in
theorem parseInt_err (k : Nat) (P0 : Nat → Prop) (A : Option Addr) (c : Nat) (l : List Int) (r : Int) (o : Bool) (w : World) (hs : Kd.V (Kd.int .u8) 5 w w.heap.size (fun k_ => P0 k_) (.slice A l.length c) l)
    (hG : GLJpi w) (h : jsonparser_parseInt.f k l = some (r, false, o)) : Calls Tryd.prog 15 #[.slice A l.length c] w (PiErr w) := by
  have HC := Lib.hid (jsonparser_parseInt.calls k P0 A c l r false o w hs h)
  obtain ⟨⟨a0, h0⟩, a1, h1⟩ := hG
  have H0 := Lib.hid h0
  have H1 := Lib.hid h1
  clear hs h h0 h1
  cases o
  all_goals
    go_enter Tryd.func15, Tryd.ntmps15
    go_wp2_with (go_at_call 22; refine HC.out.mono ?_; rintro e w' ⟨rfl, hb⟩; have g0 := (hb.cell (block_lt H0.out)).trans H0.out; have g1 := (hb.cell (block_lt H1.out)).trans H1.out)
    go_quiet (fail)
    go_wp2
    go_ret2
    exact ⟨_, rfl, below_drewN hb _⟩

def impl_JpParseInt.f (k : Nat) (s : ByteArray) : Option (Int × Bool) :=
  if s.size ≤ 140737488351232 then (jsonparser_parseInt.f k (bytesOf s)).bind fun t => some (if t.2.1 = true then (t.1, true) else (0, false)) else none

theorem impl_JpParseInt.mono : ∀ a0 k, LeO (impl_JpParseInt.f k a0) (impl_JpParseInt.f (k + 1) a0) := by
  intro a0 k
  unfold impl_JpParseInt.f
  split
  · exact LeO.bind (Go.Proofs.YtifcmhekpbfboaaDoor.MjsonparserparseInt.jsonparser_parseInt.mono _ _) fun _ => LeO.refl _
  · exact LeO.none _

/-- A text's bytes, as the inner functions are handed them. -/
theorem conv_V (s : ByteArray) (w : World) (hs : s.size ≤ 140737488351232) :
    Kd.V (Kd.int .u8) 5 (Lib.bytesWorld w 5 s) (Lib.bytesWorld w 5 s).heap.size (fun k_ => k_ < (Lib.bytesWorld w 5 s).heap.size) (.slice (some ⟨w.heap.size, 0, none⟩) (bytesOf s).length (grownCap w s.size 0 5)) (bytesOf s) := by
  have hr := bytes_reads w 5 s (by omega)
  have hc : (bytesOf s).length ≤ grownCap w s.size 0 5 := by rw [bytesOf_length]; exact grownCap_ge w s.size 0 5
  have hr2 : (Kd.int .u8).C (Lib.bytesWorld w 5 s) (some ⟨w.heap.size, 0, none⟩) (bytesOf s).length (bytesOf s) := by
    rw [bytesOf_length]
    exact Kd.C_of_reads (enc := Value.int .u8) (d := (0 : Int)) (h1 := fun _ => rfl) hr
  exact Kd.V_mk hc (Kd.C_F (Kd.heap_int .u8) hr2)

set_option maxHeartbeats 1000000 in
theorem impl_JpParseInt.calls (k : Nat) (s : ByteArray) (r1 : Int) (r2 : Bool) (w : World) (hG : GLJpi w) (h : impl_JpParseInt.f k s = some (r1, r2)) :
    Calls Tryd.prog 7 #[.string s] w fun e w' => e = .returned (.tuple #[.int .i64 r1, .bool r2]) ∧ Below w.heap.size w w' := by
  unfold impl_JpParseInt.f at h
  by_cases hs : s.size ≤ 140737488351232
  · rw [if_pos hs] at h
    obtain ⟨⟨v, ok, ov⟩, hp, h⟩ := Option.bind_eq_some_iff.1 h
    simp only [Option.some.injEq] at h
    have hbw : Below w.heap.size w (Lib.bytesWorld w 5 s) := bytes_below (Below.refl _ _) (Nat.le_refl _) 5 s
    have HV := Lib.hid (conv_V s w hs)
    have kc := fun W => print_bytes (P := Tryd.prog) 9 43 5 Tryd.underlying9 Tryd.underlying43 Tryd.underlying5 s W
    have HBW := Lib.hid hbw
    have hl := bytesOf_length s
    have HLN := Lib.hid hl
    cases ok with
    | true =>
      simp only [if_true, Prod.mk.injEq] at h
      obtain ⟨rfl, rfl⟩ := h
      have HC : Hid (Calls Tryd.prog 15 #[.slice (some ⟨w.heap.size, 0, none⟩) s.size (grownCap w s.size 0 5)] (Lib.bytesWorld w 5 s) (PiOk v (Lib.bytesWorld w 5 s))) := Lib.hid (by
        have := parseInt_ok k _ _ _ (bytesOf s) v ov _ HV.out hp
        rwa [hl] at this)
      clear hp hs hG hbw hl
      go_enter Tryd.func7, Tryd.ntmps7
      go_wp2_with (go_at_call 15; refine HC.out.mono ?_; rintro e w' ⟨rfl, hb⟩)
      go_ret2
      exact ⟨rfl, HBW.out.trans (hb.mono HBW.out.size)⟩
    | false =>
      simp only [Bool.false_eq_true, if_false, Prod.mk.injEq] at h
      obtain ⟨rfl, rfl⟩ := h
      have HC : Hid (Calls Tryd.prog 15 #[.slice (some ⟨w.heap.size, 0, none⟩) s.size (grownCap w s.size 0 5)] (Lib.bytesWorld w 5 s) (PiErr (Lib.bytesWorld w 5 s))) := Lib.hid (by
        have := parseInt_err k _ _ _ (bytesOf s) v ov _ HV.out (hG.keep hbw) hp
        rwa [hl] at this)
      clear hp hs hG hbw hl
      go_enter Tryd.func7, Tryd.ntmps7
      go_wp2_with (go_at_call 15; refine HC.out.mono ?_; rintro e w' ⟨a, rfl, hb⟩)
      go_ret2
      exact ⟨rfl, HBW.out.trans (hb.mono HBW.out.size)⟩
  · rw [if_neg hs] at h; simp at h

end Go.Proofs.YtifcmhekpbfboaaDoor
