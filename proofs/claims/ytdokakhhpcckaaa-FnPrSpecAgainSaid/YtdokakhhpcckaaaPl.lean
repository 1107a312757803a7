/- The walk of spec.Places, by hand, out of the printed contracts of the reader. MFnPrSpecAgain: the print's namespace; S52, S36, k52, k36, IsS30: the printed types and kinds of spans, places and of the reader. No condition. -/
import Derived.Test.YtdokakhhpcckaaaGr2
import Derived.WalkKit
import Derived.WalkSpells
import Derived.WalkMore
import Derived.WalkSmall
import Derived.Lib.Hide
import Derived.Outline
import Derived.Below
import Derived.Deep.LoopGhost
import Derived.BigQuiet
import Derived.Deep.QuietTactic
import Derived.Deep.DeepCutAuto
import Derived.Deep.CutBlock
namespace Go.Proofs.Ytdokakhhpcckaaa
open Go.RowKit Go.Proofs.Ytdokakhhpcckaaa.MFnPrSpecAgain Go.Proofs.YtdokakhhpcckaaaW.PrintWords Go.Proofs.YtdokakhhpcckaaaW.PrintLast Go.Proofs.Ytdokakhhpcckaaa.Pure

theorem sq_results {P : Program} {fn : Func} {p u : Tmp} {ty : TypeId} (h : fn.results = #[.cell p ty, .tmp u]) (tmps : Array Value) (w : World) (g : Nat) (t : TypeId) (cs : Array Value) (fr : Nat × Nat) (d : TypeDesc)
    (hp : tmps.getD p undef = .pointer (some ⟨g, 0, none⟩)) (hg : w.heap[g]? = some (.cells cs t fr))
    (hu : P.underlying ty = some d) (hd : (match d with | .struct _ | .array _ _ => true | _ => false) = true) (hi : (P.info? ty).map (·.size) = some cs.size) :
    (results fn tmps).run P w = .ok (.tuple #[.agg cs, tmps.getD u undef]) w := by
  have hp' : tmps[p]?.getD undef = .pointer (some ⟨g, 0, none⟩) := by simpa using hp
  simp [results, h, hp', asAddr, run_loadVar_row w g t ty cs fr d hg hu hd hi]

set_option maxHeartbeats 4000000 in
set_option maxRecDepth 100000 in
theorem places_any (k : Nat) (a0 : ByteArray) (r1 r2 r3 : Int) (r4 : List S52) (r5 : List S36) (r6 : Bool) (w : World) (h : placesF k a0 = some (r1, r2, r3, r4, r5, r6)) :
  Calls Try.prog 10 #[.string a0] w fun e w' => ∃ v3_ v4_ : Value, e = .returned (.tuple #[.agg #[.int .i64 r1, .int .i64 r2, .int .i64 r3, v3_, v4_], .bool r6]) ∧ Kd.R k52 52 w' w.heap.size (fun _ => True) v3_ r4 ∧ Kd.R k36 36 w' w.heap.size (fun k_ => some k_ ≠ (v3_ : Value).ownBlock) v4_ r5 ∧ Below w.heap.size w w' := by
  unfold placesF at h
  obtain ⟨⟨t1, q1⟩, A1, h⟩ := Option.bind_eq_some_iff.mp h
  obtain ⟨⟨s1, s2, s3, s4, s5, s6, t2, q2⟩, A2, h⟩ := Option.bind_eq_some_iff.mp h
  simp only at A2 h
  have HA2 := Lib.hid A2
  have HH := Lib.hid h
  clear A2 h
  have C1 : Hid (Calls Try.prog 14 #[.pointer (some ⟨w.heap.size + 1, 0, none⟩)] ((w.alloc (.cells #[.int .i64 0, .int .i64 0, .int .i64 0, .slice none 0 0, .slice none 0 0] 36)).alloc (.cells #[.string a0, .int .i64 0] 30)) fun e w' => e = .returned (.tuple #[]) ∧ IsS30 w w' (w.heap.size + 1) t1 q1 ∧ Below w.heap.size w w' ∧ KeepBut ((w.alloc (.cells #[.int .i64 0, .int .i64 0, .int .i64 0, .slice none 0 0, .slice none 0 0] 36)).alloc (.cells #[.string a0, .int .i64 0] 30)) w' (w.heap.size + 1) none) :=
    Lib.hid (spec_reader_blanks.calls k (w.heap.size + 1) a0 0 t1 q1 w _ ⟨by have h := heap_alloc_new (w.alloc (.cells #[.int .i64 0, .int .i64 0, .int .i64 0, .slice none 0 0, .slice none 0 0] 36)) (.cells #[.string a0, .int .i64 0] 30); rwa [show (w.alloc (.cells #[.int .i64 0, .int .i64 0, .int .i64 0, .slice none 0 0, .slice none 0 0] 36)).heap.size = w.heap.size + 1 by simp] at h, by omega⟩
      (((Below.refl _ _).alloc (Nat.le_refl _) _).alloc (by simp) _) A1)
  have B0 : Hid (((w.alloc (.cells #[.int .i64 0, .int .i64 0, .int .i64 0, .slice none 0 0, .slice none 0 0] 36)).alloc (.cells #[.string a0, .int .i64 0] 30)).heap[w.heap.size]? = some (.cells #[.int .i64 0, .int .i64 0, .int .i64 0, .slice none 0 0, .slice none 0 0] 36 (0, 0))) := Lib.hid ((Below.heap_alloc _ _ _ (by simp)).trans (heap_alloc_new w _))
  clear A1
  go_enter Try.func10, Try.ntmps10
  go_upto_if 15 with (first | (go_at_call 14; refine C1.out.mono ?_; rintro e w1 ⟨rfl, hI1, hB1, hK1⟩; have C2 := Lib.hid (spec_reader_value.calls k (w.heap.size + 1) t1 q1 s1 s2 s3 s4 s5 s6 t2 q2 w w1 hI1 hB1 HA2.out); have B1 := Lib.hid (hK1.blk B0.out (by omega) (by simp)); have Z1 : Hid (w.heap.size + 2 ≤ w1.heap.size) := Lib.hid (by have h := hK1.1; simpa using h); clear hI1 hB1 hK1 C1 HA2 B0) | (go_at_call 15; refine C2.out.mono ?_; rintro e w2 ⟨v3, v4, rfl, hR3, hR4, hI2, hB2, hK2⟩; obtain ⟨A3, c3, rfl⟩ := Kd.R_slice hR3; obtain ⟨A4, c4, rfl⟩ := Kd.R_slice hR4; have B2 := Lib.hid (hK2.blk B1.out (by omega) (by simp)); have HR3 := Lib.hid hR3; have HR4 := Lib.hid hR4; have HI2 := Lib.hid hI2; have HB2 := Lib.hid hB2; have Z2 : Hid (w1.heap.size ≤ w2.heap.size) := Lib.hid hK2.1; clear hR3 hR4 hI2 hB2 hK2 B1 C2) | fail)
  have ZN : Hid (w.heap.size < w2.heap.size) := Lib.hid (by have h1 := Z1.out; have h2 := Z2.out; omega)
  have BN : Hid ((w2.alloc (.cells #[.int .i64 s1, .int .i64 s2, .int .i64 s3, .slice A3 s4.length c3, .slice A4 s5.length c4] 36)).heap[w.heap.size]? = some (.cells #[.int .i64 0, .int .i64 0, .int .i64 0, .slice none 0 0, .slice none 0 0] 36 (0, 0))) := Lib.hid ((Below.heap_alloc _ _ _ ZN.out).trans B2.out)
  have HBp := Lib.hid (HB2.out.alloc HB2.out.size (.cells #[.int .i64 s1, .int .i64 s2, .int .i64 s3, .slice A3 s4.length c3, .slice A4 s5.length c4] 36))
  cases s6 with
  | false =>
    have hh := HH.out
    rw [if_neg (by decide)] at hh
    simp only [Option.some.injEq, Prod.mk.injEq] at hh
    obtain ⟨rfl, rfl, rfl, rfl, rfl, rfl⟩ := hh
    have yc0 := cell_of_row _ w.heap.size 0 _ _ _ BN.out
    have yf0 := Go.frozen_of_row _ w.heap.size 0 _ _ BN.out
    have yH0 := Lib.hid (heap_setCell_same _ w.heap.size 0 _ _ ((.int .i64 0)) BN.out)
    have yc1 := cell_of_row _ w.heap.size 1 _ _ _ yH0.out
    have yf1 := Go.frozen_of_row _ w.heap.size 1 _ _ yH0.out
    have yH1 := Lib.hid (heap_setCell_same _ w.heap.size 1 _ _ ((.int .i64 0)) yH0.out)
    have yc2 := cell_of_row _ w.heap.size 2 _ _ _ yH1.out
    have yf2 := Go.frozen_of_row _ w.heap.size 2 _ _ yH1.out
    have yH2 := Lib.hid (heap_setCell_same _ w.heap.size 2 _ _ ((.int .i64 0)) yH1.out)
    have yc3 := cell_of_row _ w.heap.size 3 _ _ _ yH2.out
    have yf3 := Go.frozen_of_row _ w.heap.size 3 _ _ yH2.out
    have yH3 := Lib.hid (heap_setCell_same _ w.heap.size 3 _ _ ((.slice none 0 0)) yH2.out)
    have yc4 := cell_of_row _ w.heap.size 4 _ _ _ yH3.out
    have yf4 := Go.frozen_of_row _ w.heap.size 4 _ _ yH3.out
    have yH4 := Lib.hid (heap_setCell_same _ w.heap.size 4 _ _ ((.slice none 0 0)) yH3.out)
    clear HH HI2 HR3 HR4
    go_wp2
    (try simp only [Exit.inBlock, Exit.then])
    refine bodyPost_ret (sq_results rfl _ _ w.heap.size 36 _ (0, 0) _ rfl yH4.out Try.underlying36 rfl (by kernel_rfl)) rfl ?_
    exact ⟨.slice none 0 0, .slice none 0 0, rfl, Kd.R_nil _ _ _ _ _, Kd.R_nil _ _ _ _ _, (((((HBp.out).setCell (Nat.le_refl _) _).setCell (Nat.le_refl _) _).setCell (Nat.le_refl _) _).setCell (Nat.le_refl _) _).setCell (Nat.le_refl _) _⟩
  | true =>
    obtain ⟨⟨t3, q3⟩, A9, h⟩ := Option.bind_eq_some_iff.mp (show ((spec_reader_blanks.f k t2 q2).bind fun b2 => (if b2.2 = (a0.size : Int) then some (s1, s2, s3, s4, s5, true) else some (0, 0, 0, ([] : List S52), ([] : List S36), false))) = some (r1, r2, r3, r4, r5, r6) from HH.out)
    have HH2 := Lib.hid h
    clear h HH
    have hI3 : IsS30 w (w2.alloc (.cells #[.int .i64 s1, .int .i64 s2, .int .i64 s3, .slice A3 s4.length c3, .slice A4 s5.length c4] 36)) (w.heap.size + 1) t2 q2 := ⟨(Below.heap_alloc _ _ _ (by have h1 := Z1.out; have h2 := Z2.out; omega)).trans HI2.out.1, by omega⟩
    have C3 := Lib.hid (spec_reader_blanks.calls k (w.heap.size + 1) t2 q2 t3 q3 w _ hI3 HBp.out A9)
    clear hI3 A9 HI2
    go_upto_if 22 with (first | (go_at_call 14; refine C3.out.mono ?_; rintro e w3 ⟨rfl, hI4, hB4, hK4⟩; have z1 : w3.cell? ⟨w.heap.size + 1, 1, none⟩ = some (.int .i64 q3) := (cell_of_row _ _ 1 _ _ _ hI4.1).trans rfl; have HB4 := Lib.hid hB4; have HK4 := Lib.hid hK4; clear hI4 hB4 hK4) | fail)
    have BN3 := Lib.hid (HK4.out.blk BN.out (by omega) (by simp))
    have BP3 := Lib.hid (HK4.out.blk (heap_alloc_new w2 (.cells #[.int .i64 s1, .int .i64 s2, .int .i64 s3, .slice A3 s4.length c3, .slice A4 s5.length c4] 36)) (by have h1 := Z1.out; have h2 := Z2.out; omega) (by simp))
    by_cases hq : q3 = (a0.size : Int)
    · have bq : (q3 == (a0.size : Int)) = true := by rw [hq]; simp
      have bq2 : (q3 != (a0.size : Int)) = false := by rw [hq]; simp
      have hh := HH2.out
      rw [if_pos hq] at hh
      simp only [Option.some.injEq, Prod.mk.injEq] at hh
      obtain ⟨rfl, rfl, rfl, rfl, rfl, rfl⟩ := hh
      have p0 := cell_of_row _ _ 0 _ _ _ BP3.out
      have p1 := cell_of_row _ _ 1 _ _ _ BP3.out
      have p2 := cell_of_row _ _ 2 _ _ _ BP3.out
      have p3 := cell_of_row _ _ 3 _ _ _ BP3.out
      have p4 := cell_of_row _ _ 4 _ _ _ BP3.out
      have yc0 := cell_of_row _ w.heap.size 0 _ _ _ BN3.out
      have yf0 := Go.frozen_of_row _ w.heap.size 0 _ _ BN3.out
      have yH0 := Lib.hid (heap_setCell_same _ w.heap.size 0 _ _ ((.int .i64 s1)) BN3.out)
      have yc1 := cell_of_row _ w.heap.size 1 _ _ _ yH0.out
      have yf1 := Go.frozen_of_row _ w.heap.size 1 _ _ yH0.out
      have yH1 := Lib.hid (heap_setCell_same _ w.heap.size 1 _ _ ((.int .i64 s2)) yH0.out)
      have yc2 := cell_of_row _ w.heap.size 2 _ _ _ yH1.out
      have yf2 := Go.frozen_of_row _ w.heap.size 2 _ _ yH1.out
      have yH2 := Lib.hid (heap_setCell_same _ w.heap.size 2 _ _ ((.int .i64 s3)) yH1.out)
      have yc3 := cell_of_row _ w.heap.size 3 _ _ _ yH2.out
      have yf3 := Go.frozen_of_row _ w.heap.size 3 _ _ yH2.out
      have yH3 := Lib.hid (heap_setCell_same _ w.heap.size 3 _ _ ((.slice A3 s4.length c3)) yH2.out)
      have yc4 := cell_of_row _ w.heap.size 4 _ _ _ yH3.out
      have yf4 := Go.frozen_of_row _ w.heap.size 4 _ _ yH3.out
      have yH4 := Lib.hid (heap_setCell_same _ w.heap.size 4 _ _ ((.slice A4 s5.length c4)) yH3.out)
      clear HH2 hq
      go_wp2
      (try simp only [Exit.inBlock, Exit.then])
      refine bodyPost_ret (sq_results rfl _ _ w.heap.size 36 _ (0, 0) _ rfl yH4.out Try.underlying36 rfl (by kernel_rfl)) rfl ?_
      have KP : ∀ k', w.heap.size + 2 ≤ k' → k' < w2.heap.size → (((((w3.setCell ⟨w.heap.size, 0, none⟩ (.int .i64 s1)).setCell ⟨w.heap.size, 1, none⟩ (.int .i64 s2)).setCell ⟨w.heap.size, 2, none⟩ (.int .i64 s3)).setCell ⟨w.heap.size, 3, none⟩ (.slice A3 s4.length c3)).setCell ⟨w.heap.size, 4, none⟩ (.slice A4 s5.length c4)).heap[k']? = w2.heap[k']? := by
        intro k' h1 h2
        rw [heap_setCell_other _ _ _ _ (by simp; omega), heap_setCell_other _ _ _ _ (by simp; omega), heap_setCell_other _ _ _ _ (by simp; omega), heap_setCell_other _ _ _ _ (by simp; omega), heap_setCell_other _ _ _ _ (by simp; omega)]
        rw [HK4.out.2 k' (by simp; omega) (by omega) (by simp)]
        exact Below.heap_alloc _ _ _ h2
      have hZ := Z1.out
      refine ⟨.slice A3 s4.length c3, .slice A4 s5.length c4, rfl, ?_, ?_, ?_⟩
      · exact Kd.R_lower (Kd.R_mono (Kd.R_step (Kd.R_bound HR3.out) (fun k' hk hlt => KP k' (by have := hk.2.1; omega) hlt)) (fun _ _ => trivial)) (by omega)
      · exact Kd.R_lower (Kd.R_mono (Kd.R_step (Kd.R_bound HR4.out) (fun k' hk hlt => KP k' (by have := hk.2.1; omega) hlt)) (fun _ hk => hk.1)) (by omega)
      · exact (((((HB4.out).setCell (Nat.le_refl _) _).setCell (Nat.le_refl _) _).setCell (Nat.le_refl _) _).setCell (Nat.le_refl _) _).setCell (Nat.le_refl _) _
    · have bq : (q3 == (a0.size : Int)) = false := by simpa using hq
      have bq2 : (q3 != (a0.size : Int)) = true := by simpa using hq
      have hh := HH2.out
      rw [if_neg hq] at hh
      simp only [Option.some.injEq, Prod.mk.injEq] at hh
      obtain ⟨rfl, rfl, rfl, rfl, rfl, rfl⟩ := hh
      have yc0 := cell_of_row _ w.heap.size 0 _ _ _ BN3.out
      have yf0 := Go.frozen_of_row _ w.heap.size 0 _ _ BN3.out
      have yH0 := Lib.hid (heap_setCell_same _ w.heap.size 0 _ _ ((.int .i64 0)) BN3.out)
      have yc1 := cell_of_row _ w.heap.size 1 _ _ _ yH0.out
      have yf1 := Go.frozen_of_row _ w.heap.size 1 _ _ yH0.out
      have yH1 := Lib.hid (heap_setCell_same _ w.heap.size 1 _ _ ((.int .i64 0)) yH0.out)
      have yc2 := cell_of_row _ w.heap.size 2 _ _ _ yH1.out
      have yf2 := Go.frozen_of_row _ w.heap.size 2 _ _ yH1.out
      have yH2 := Lib.hid (heap_setCell_same _ w.heap.size 2 _ _ ((.int .i64 0)) yH1.out)
      have yc3 := cell_of_row _ w.heap.size 3 _ _ _ yH2.out
      have yf3 := Go.frozen_of_row _ w.heap.size 3 _ _ yH2.out
      have yH3 := Lib.hid (heap_setCell_same _ w.heap.size 3 _ _ ((.slice none 0 0)) yH2.out)
      have yc4 := cell_of_row _ w.heap.size 4 _ _ _ yH3.out
      have yf4 := Go.frozen_of_row _ w.heap.size 4 _ _ yH3.out
      have yH4 := Lib.hid (heap_setCell_same _ w.heap.size 4 _ _ ((.slice none 0 0)) yH3.out)
      clear HH2 hq HR3 HR4
      go_wp2
      (try simp only [Exit.inBlock, Exit.then])
      refine bodyPost_ret (sq_results rfl _ _ w.heap.size 36 _ (0, 0) _ rfl yH4.out Try.underlying36 rfl (by kernel_rfl)) rfl ?_
      exact ⟨.slice none 0 0, .slice none 0 0, rfl, Kd.R_nil _ _ _ _ _, Kd.R_nil _ _ _ _ _, (((((HB4.out).setCell (Nat.le_refl _) _).setCell (Nat.le_refl _) _).setCell (Nat.le_refl _) _).setCell (Nat.le_refl _) _).setCell (Nat.le_refl _) _⟩
end Go.Proofs.Ytdokakhhpcckaaa
