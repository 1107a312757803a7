/- The walks of spec.Places and of the row's own function, by hand, out of the printed contracts. Conditions: the text takes at most 2^47 - 4096 bytes; the table of marks holds what its initialiser lays. -/
import Derived.Test.YtifcmhekpbfboaaDoorSqTree
import Derived.Test.YtifcmhekpbfboaaDoorSqWalk
namespace Go.Proofs.YtifcmhekpbfboaaDoor
open Go.RowKit Go.Proofs.YtifcmhekpbfboaaDoor.MFnGjSquashAt Go.Proofs.YtifcmhekpbfboaaDoorW.PrintWords Go.Proofs.YtifcmhekpbfboaaDoorW.PrintLast Go.Proofs.YtifcmhekpbfboaaDoor.Pure

theorem sq_results {P : Program} {fn : Func} {p u : Tmp} {ty : TypeId} (h : fn.results = #[.cell p ty, .tmp u]) (tmps : Array Value) (w : World) (g : Nat) (t : TypeId) (cs : Array Value) (fr : Nat × Nat) (d : TypeDesc)
    (hp : tmps.getD p undef = .pointer (some ⟨g, 0, none⟩)) (hg : w.heap[g]? = some (.cells cs t fr))
    (hu : P.underlying ty = some d) (hd : (match d with | .struct _ | .array _ _ => true | _ => false) = true) (hi : (P.info? ty).map (·.size) = some cs.size) :
    (results fn tmps).run P w = .ok (.tuple #[.agg cs, tmps.getD u undef]) w := by
  have hp' : tmps[p]?.getD undef = .pointer (some ⟨g, 0, none⟩) := by simpa using hp
  simp [results, h, hp', asAddr, run_loadVar_row w g t ty cs fr d hg hu hd hi]

set_option maxHeartbeats 4000000 in
set_option maxRecDepth 100000 in
theorem places_any (k : Nat) (a0 : ByteArray) (r1 r2 r3 : Int) (r4 : List S66) (r5 : List S30) (r6 : Bool) (w : World) (h : placesF k a0 = some (r1, r2, r3, r4, r5, r6)) :
  Calls Tryd.prog 11 #[.string a0] w fun e w' => ∃ v3_ v4_ : Value, e = .returned (.tuple #[.agg #[.int .i64 r1, .int .i64 r2, .int .i64 r3, v3_, v4_], .bool r6]) ∧ Kd.R k66 66 w' w.heap.size (fun _ => True) v3_ r4 ∧ Kd.R k30 30 w' w.heap.size (fun k_ => some k_ ≠ (v3_ : Value).ownBlock) v4_ r5 ∧ Below w.heap.size w w' := by
  unfold placesF at h
  obtain ⟨⟨t1, q1⟩, A1, h⟩ := Option.bind_eq_some_iff.mp h
  obtain ⟨⟨s1, s2, s3, s4, s5, s6, t2, q2⟩, A2, h⟩ := Option.bind_eq_some_iff.mp h
  simp only at A2 h
  have HA2 := Lib.hid A2
  have HH := Lib.hid h
  clear A2 h
  have C1 : Hid (Calls Tryd.prog 18 #[.pointer (some ⟨w.heap.size + 1, 0, none⟩)] ((w.alloc (.cells #[.int .i64 0, .int .i64 0, .int .i64 0, .slice none 0 0, .slice none 0 0] 30)).alloc (.cells #[.string a0, .int .i64 0] 48)) fun e w' => e = .returned (.tuple #[]) ∧ IsS48 w w' (w.heap.size + 1) t1 q1 ∧ Below w.heap.size w w' ∧ KeepBut ((w.alloc (.cells #[.int .i64 0, .int .i64 0, .int .i64 0, .slice none 0 0, .slice none 0 0] 30)).alloc (.cells #[.string a0, .int .i64 0] 48)) w' (w.heap.size + 1) none) :=
    Lib.hid (spec_reader_blanks.calls k (w.heap.size + 1) a0 0 t1 q1 w _ ⟨by have h := heap_alloc_new (w.alloc (.cells #[.int .i64 0, .int .i64 0, .int .i64 0, .slice none 0 0, .slice none 0 0] 30)) (.cells #[.string a0, .int .i64 0] 48); rwa [show (w.alloc (.cells #[.int .i64 0, .int .i64 0, .int .i64 0, .slice none 0 0, .slice none 0 0] 30)).heap.size = w.heap.size + 1 by simp] at h, by omega⟩
      (((Below.refl _ _).alloc (Nat.le_refl _) _).alloc (by simp) _) A1)
  have B0 : Hid (((w.alloc (.cells #[.int .i64 0, .int .i64 0, .int .i64 0, .slice none 0 0, .slice none 0 0] 30)).alloc (.cells #[.string a0, .int .i64 0] 48)).heap[w.heap.size]? = some (.cells #[.int .i64 0, .int .i64 0, .int .i64 0, .slice none 0 0, .slice none 0 0] 30 (0, 0))) := Lib.hid ((Below.heap_alloc _ _ _ (by simp)).trans (heap_alloc_new w _))
  clear A1
  go_enter Tryd.func11, Tryd.ntmps11
  go_upto_if 15 with (first | (go_at_call 18; refine C1.out.mono ?_; rintro e w1 ⟨rfl, hI1, hB1, hK1⟩; have C2 := Lib.hid (spec_reader_value.calls k (w.heap.size + 1) t1 q1 s1 s2 s3 s4 s5 s6 t2 q2 w w1 hI1 hB1 HA2.out); have B1 := Lib.hid (hK1.blk B0.out (by omega) (by simp)); have Z1 : Hid (w.heap.size + 2 ≤ w1.heap.size) := Lib.hid (by have h := hK1.1; simpa using h); clear hI1 hB1 hK1 C1 HA2 B0) | (go_at_call 19; refine C2.out.mono ?_; rintro e w2 ⟨v3, v4, rfl, hR3, hR4, hI2, hB2, hK2⟩; obtain ⟨A3, c3, rfl⟩ := Kd.R_slice hR3; obtain ⟨A4, c4, rfl⟩ := Kd.R_slice hR4; have B2 := Lib.hid (hK2.blk B1.out (by omega) (by simp)); have HR3 := Lib.hid hR3; have HR4 := Lib.hid hR4; have HI2 := Lib.hid hI2; have HB2 := Lib.hid hB2; have Z2 : Hid (w1.heap.size ≤ w2.heap.size) := Lib.hid hK2.1; clear hR3 hR4 hI2 hB2 hK2 B1 C2) | fail)
  have ZN : Hid (w.heap.size < w2.heap.size) := Lib.hid (by have h1 := Z1.out; have h2 := Z2.out; omega)
  have BN : Hid ((w2.alloc (.cells #[.int .i64 s1, .int .i64 s2, .int .i64 s3, .slice A3 s4.length c3, .slice A4 s5.length c4] 30)).heap[w.heap.size]? = some (.cells #[.int .i64 0, .int .i64 0, .int .i64 0, .slice none 0 0, .slice none 0 0] 30 (0, 0))) := Lib.hid ((Below.heap_alloc _ _ _ ZN.out).trans B2.out)
  have HBp := Lib.hid (HB2.out.alloc HB2.out.size (.cells #[.int .i64 s1, .int .i64 s2, .int .i64 s3, .slice A3 s4.length c3, .slice A4 s5.length c4] 30))
  cases s6 with
  | false =>
    have hh := HH.out
    rw [if_neg (by decide)] at hh
    simp only [Option.some.injEq, Prod.mk.injEq] at hh
    obtain ⟨rfl, rfl, rfl, rfl, rfl, rfl⟩ := hh
    have yc0 := cell_of_row _ w.heap.size 0 _ _ _ BN.out
    have yf0 := Go.frozen_of_row _ w.heap.size 0 _ _ BN.out
    have yH0 := Lib.hid (heap_setCell_same _ w.heap.size 0 _ _ ((.int .i64 0)) BN.out)
    have yc1 := cell_of_row _ w.heap.size 1 _ _ _ yH0.out
    have yf1 := Go.frozen_of_row _ w.heap.size 1 _ _ yH0.out
    have yH1 := Lib.hid (heap_setCell_same _ w.heap.size 1 _ _ ((.int .i64 0)) yH0.out)
    have yc2 := cell_of_row _ w.heap.size 2 _ _ _ yH1.out
    have yf2 := Go.frozen_of_row _ w.heap.size 2 _ _ yH1.out
    have yH2 := Lib.hid (heap_setCell_same _ w.heap.size 2 _ _ ((.int .i64 0)) yH1.out)
    have yc3 := cell_of_row _ w.heap.size 3 _ _ _ yH2.out
    have yf3 := Go.frozen_of_row _ w.heap.size 3 _ _ yH2.out
    have yH3 := Lib.hid (heap_setCell_same _ w.heap.size 3 _ _ ((.slice none 0 0)) yH2.out)
    have yc4 := cell_of_row _ w.heap.size 4 _ _ _ yH3.out
    have yf4 := Go.frozen_of_row _ w.heap.size 4 _ _ yH3.out
    have yH4 := Lib.hid (heap_setCell_same _ w.heap.size 4 _ _ ((.slice none 0 0)) yH3.out)
    clear HH HI2 HR3 HR4
    go_wp2
    (try simp only [Exit.inBlock, Exit.then])
    refine bodyPost_ret (sq_results rfl _ _ w.heap.size 30 _ (0, 0) _ rfl yH4.out Tryd.underlying30 rfl (by kernel_rfl)) rfl ?_
    exact ⟨.slice none 0 0, .slice none 0 0, rfl, Kd.R_nil _ _ _ _ _, Kd.R_nil _ _ _ _ _, (((((HBp.out).setCell (Nat.le_refl _) _).setCell (Nat.le_refl _) _).setCell (Nat.le_refl _) _).setCell (Nat.le_refl _) _).setCell (Nat.le_refl _) _⟩
  | true =>
    obtain ⟨⟨t3, q3⟩, A9, h⟩ := Option.bind_eq_some_iff.mp (show ((spec_reader_blanks.f k t2 q2).bind fun b2 => (if b2.2 = (a0.size : Int) then some (s1, s2, s3, s4, s5, true) else some (0, 0, 0, ([] : List S66), ([] : List S30), false))) = some (r1, r2, r3, r4, r5, r6) from HH.out)
    have HH2 := Lib.hid h
    clear h HH
    have hI3 : IsS48 w (w2.alloc (.cells #[.int .i64 s1, .int .i64 s2, .int .i64 s3, .slice A3 s4.length c3, .slice A4 s5.length c4] 30)) (w.heap.size + 1) t2 q2 := ⟨(Below.heap_alloc _ _ _ (by have h1 := Z1.out; have h2 := Z2.out; omega)).trans HI2.out.1, by omega⟩
    have C3 := Lib.hid (spec_reader_blanks.calls k (w.heap.size + 1) t2 q2 t3 q3 w _ hI3 HBp.out A9)
    clear hI3 A9 HI2
    go_upto_if 22 with (first | (go_at_call 18; refine C3.out.mono ?_; rintro e w3 ⟨rfl, hI4, hB4, hK4⟩; have z1 : w3.cell? ⟨w.heap.size + 1, 1, none⟩ = some (.int .i64 q3) := (cell_of_row _ _ 1 _ _ _ hI4.1).trans rfl; have HB4 := Lib.hid hB4; have HK4 := Lib.hid hK4; clear hI4 hB4 hK4) | fail)
    have BN3 := Lib.hid (HK4.out.blk BN.out (by omega) (by simp))
    have BP3 := Lib.hid (HK4.out.blk (heap_alloc_new w2 (.cells #[.int .i64 s1, .int .i64 s2, .int .i64 s3, .slice A3 s4.length c3, .slice A4 s5.length c4] 30)) (by have h1 := Z1.out; have h2 := Z2.out; omega) (by simp))
    by_cases hq : q3 = (a0.size : Int)
    · have bq : (q3 == (a0.size : Int)) = true := by rw [hq]; simp
      have bq2 : (q3 != (a0.size : Int)) = false := by rw [hq]; simp
      have hh := HH2.out
      rw [if_pos hq] at hh
      simp only [Option.some.injEq, Prod.mk.injEq] at hh
      obtain ⟨rfl, rfl, rfl, rfl, rfl, rfl⟩ := hh
      have p0 := cell_of_row _ _ 0 _ _ _ BP3.out
      have p1 := cell_of_row _ _ 1 _ _ _ BP3.out
      have p2 := cell_of_row _ _ 2 _ _ _ BP3.out
      have p3 := cell_of_row _ _ 3 _ _ _ BP3.out
      have p4 := cell_of_row _ _ 4 _ _ _ BP3.out
      have yc0 := cell_of_row _ w.heap.size 0 _ _ _ BN3.out
      have yf0 := Go.frozen_of_row _ w.heap.size 0 _ _ BN3.out
      have yH0 := Lib.hid (heap_setCell_same _ w.heap.size 0 _ _ ((.int .i64 s1)) BN3.out)
      have yc1 := cell_of_row _ w.heap.size 1 _ _ _ yH0.out
      have yf1 := Go.frozen_of_row _ w.heap.size 1 _ _ yH0.out
      have yH1 := Lib.hid (heap_setCell_same _ w.heap.size 1 _ _ ((.int .i64 s2)) yH0.out)
      have yc2 := cell_of_row _ w.heap.size 2 _ _ _ yH1.out
      have yf2 := Go.frozen_of_row _ w.heap.size 2 _ _ yH1.out
      have yH2 := Lib.hid (heap_setCell_same _ w.heap.size 2 _ _ ((.int .i64 s3)) yH1.out)
      have yc3 := cell_of_row _ w.heap.size 3 _ _ _ yH2.out
      have yf3 := Go.frozen_of_row _ w.heap.size 3 _ _ yH2.out
      have yH3 := Lib.hid (heap_setCell_same _ w.heap.size 3 _ _ ((.slice A3 s4.length c3)) yH2.out)
      have yc4 := cell_of_row _ w.heap.size 4 _ _ _ yH3.out
      have yf4 := Go.frozen_of_row _ w.heap.size 4 _ _ yH3.out
      have yH4 := Lib.hid (heap_setCell_same _ w.heap.size 4 _ _ ((.slice A4 s5.length c4)) yH3.out)
      clear HH2 hq
      go_wp2
      (try simp only [Exit.inBlock, Exit.then])
      refine bodyPost_ret (sq_results rfl _ _ w.heap.size 30 _ (0, 0) _ rfl yH4.out Tryd.underlying30 rfl (by kernel_rfl)) rfl ?_
      have KP : ∀ k', w.heap.size + 2 ≤ k' → k' < w2.heap.size → (((((w3.setCell ⟨w.heap.size, 0, none⟩ (.int .i64 s1)).setCell ⟨w.heap.size, 1, none⟩ (.int .i64 s2)).setCell ⟨w.heap.size, 2, none⟩ (.int .i64 s3)).setCell ⟨w.heap.size, 3, none⟩ (.slice A3 s4.length c3)).setCell ⟨w.heap.size, 4, none⟩ (.slice A4 s5.length c4)).heap[k']? = w2.heap[k']? := by
        intro k' h1 h2
        rw [heap_setCell_other _ _ _ _ (by simp; omega), heap_setCell_other _ _ _ _ (by simp; omega), heap_setCell_other _ _ _ _ (by simp; omega), heap_setCell_other _ _ _ _ (by simp; omega), heap_setCell_other _ _ _ _ (by simp; omega)]
        rw [HK4.out.2 k' (by simp; omega) (by omega) (by simp)]
        exact Below.heap_alloc _ _ _ h2
      have hZ := Z1.out
      refine ⟨.slice A3 s4.length c3, .slice A4 s5.length c4, rfl, ?_, ?_, ?_⟩
      · exact Kd.R_lower (Kd.R_mono (Kd.R_step (Kd.R_bound HR3.out) (fun k' hk hlt => KP k' (by have := hk.2.1; omega) hlt)) (fun _ _ => trivial)) (by omega)
      · exact Kd.R_lower (Kd.R_mono (Kd.R_step (Kd.R_bound HR4.out) (fun k' hk hlt => KP k' (by have := hk.2.1; omega) hlt)) (fun _ hk => hk.1)) (by omega)
      · exact (((((HB4.out).setCell (Nat.le_refl _) _).setCell (Nat.le_refl _) _).setCell (Nat.le_refl _) _).setCell (Nat.le_refl _) _).setCell (Nat.le_refl _) _
    · have bq : (q3 == (a0.size : Int)) = false := by simpa using hq
      have bq2 : (q3 != (a0.size : Int)) = true := by simpa using hq
      have hh := HH2.out
      rw [if_neg hq] at hh
      simp only [Option.some.injEq, Prod.mk.injEq] at hh
      obtain ⟨rfl, rfl, rfl, rfl, rfl, rfl⟩ := hh
      have yc0 := cell_of_row _ w.heap.size 0 _ _ _ BN3.out
      have yf0 := Go.frozen_of_row _ w.heap.size 0 _ _ BN3.out
      have yH0 := Lib.hid (heap_setCell_same _ w.heap.size 0 _ _ ((.int .i64 0)) BN3.out)
      have yc1 := cell_of_row _ w.heap.size 1 _ _ _ yH0.out
      have yf1 := Go.frozen_of_row _ w.heap.size 1 _ _ yH0.out
      have yH1 := Lib.hid (heap_setCell_same _ w.heap.size 1 _ _ ((.int .i64 0)) yH0.out)
      have yc2 := cell_of_row _ w.heap.size 2 _ _ _ yH1.out
      have yf2 := Go.frozen_of_row _ w.heap.size 2 _ _ yH1.out
      have yH2 := Lib.hid (heap_setCell_same _ w.heap.size 2 _ _ ((.int .i64 0)) yH1.out)
      have yc3 := cell_of_row _ w.heap.size 3 _ _ _ yH2.out
      have yf3 := Go.frozen_of_row _ w.heap.size 3 _ _ yH2.out
      have yH3 := Lib.hid (heap_setCell_same _ w.heap.size 3 _ _ ((.slice none 0 0)) yH2.out)
      have yc4 := cell_of_row _ w.heap.size 4 _ _ _ yH3.out
      have yf4 := Go.frozen_of_row _ w.heap.size 4 _ _ yH3.out
      have yH4 := Lib.hid (heap_setCell_same _ w.heap.size 4 _ _ ((.slice none 0 0)) yH3.out)
      clear HH2 hq HR3 HR4
      go_wp2
      (try simp only [Exit.inBlock, Exit.then])
      refine bodyPost_ret (sq_results rfl _ _ w.heap.size 30 _ (0, 0) _ rfl yH4.out Tryd.underlying30 rfl (by kernel_rfl)) rfl ?_
      exact ⟨.slice none 0 0, .slice none 0 0, rfl, Kd.R_nil _ _ _ _ _, Kd.R_nil _ _ _ _ _, (((((HB4.out).setCell (Nat.le_refl _) _).setCell (Nat.le_refl _) _).setCell (Nat.le_refl _) _).setCell (Nat.le_refl _) _).setCell (Nat.le_refl _) _⟩
def DPostS (t : ByteArray) (b e : Nat) (w : World) : Ending → World → Prop := fun x w' => x = .returned (.tuple #[.int .i64 (e : Int), .string (t.extract b e)]) ∧ Below w.heap.size w w'

theorem squash_at (t : ByteArray) (b e : Nat) (hs : t.size ≤ 140737488351232) (hb : b < t.size) (he : e ≤ t.size) (HQ : sq (t.data.toList.drop (b + 1)) none 1 = some (t.size - e)) (w : World) (hG : GLVch w) :
    Calls Tryd.prog 31 #[.string t, .int .i64 (b : Int)] w (DPostS t b e w) :=
  (squash_any t b (t.size - e) w hs hb hG HQ).mono fun x w' ⟨h1, h2⟩ => ⟨by rw [h1, show t.size - (t.size - e) = e by omega], h2⟩

set_option maxHeartbeats 1000000 in
theorem squash_door (t : ByteArray) (b e : Nat) (hs : t.size ≤ 140737488351232) (hb : b < t.size) (he : e ≤ t.size) (HQ : sq (t.data.toList.drop (b + 1)) none 1 = some (t.size - e)) (w : World) (hG : GLVch w) :
    Calls Tryd.prog 20 #[.string t, .int .i64 (b : Int)] w (DPostS t b e w) := by
  have HC := Lib.hid (squash_at t b e hs hb he HQ w hG)
  clear HQ hG
  go_enter Tryd.func20, Tryd.ntmps20
  go_wp2_with (first | (go_at_call 31; refine HC.out.mono ?_; rintro x w' ⟨rfl, hb⟩) | fail)
  go_ret2
  exact ⟨rfl, hb⟩
set_option maxHeartbeats 1000000 in
theorem squash_impl (t : ByteArray) (b e : Nat) (hs : t.size ≤ 140737488351232) (hb : b < t.size) (he : e ≤ t.size) (HQ : sq (t.data.toList.drop (b + 1)) none 1 = some (t.size - e)) (w : World) (hG : GLVch w) :
    Calls Tryd.prog 13 #[.string t, .int .i64 (b : Int)] w (DPostS t b e w) := by
  have HC := Lib.hid (squash_door t b e hs hb he HQ w hG)
  clear HQ hG
  go_enter Tryd.func13, Tryd.ntmps13
  go_wp2_with (first | (go_at_call 20; refine HC.out.mono ?_; rintro x w' ⟨rfl, hb⟩) | fail)
  go_ret2
  exact ⟨rfl, hb⟩

set_option maxHeartbeats 4000000 in
set_option maxRecDepth 100000 in
theorem law_any (a0 : ByteArray) (w : World) (hsz : a0.size ≤ 140737488351232) (hG : GLVch w) : Calls Tryd.prog 5 #[.string a0] w fun e w' => e = .returned (.bool true) ∧ Below w.heap.size w w' := by
  go_enter Tryd.func5, Tryd.ntmps5
  by_cases hbig : 2147483647 < a0.size
  · have b0 : decide (2147483647 < (a0.size : Int)) = true := decide_eq_true (by omega)
    have b1 : (2147483647 < a0.size) = True := eq_true hbig
    clear hG
    go_wp2
    go_ret
    exact ⟨rfl, Below.refl _ _⟩
  · have b0 : decide (2147483647 < (a0.size : Int)) = false := decide_eq_false (by omega)
    have b1 : (2147483647 < a0.size) = False := eq_false hbig
    obtain ⟨k, r1, r2, r3, r4, r5, r6, hP, hA⟩ := places_ok a0 (by omega)
    have C1 := Lib.hid (places_any k a0 r1 r2 r3 r4 r5 r6 w hP)
    have HA := Lib.hid hA
    replace hG := Lib.hid hG
    clear hP hA
    cases r6 with
    | false =>
      go_wp2_with (first | (go_at_call 11; refine C1.out.mono ?_; rintro e w1 ⟨v3, v4, rfl, hR3, hR4, hB1⟩; obtain ⟨A3, c3, rfl⟩ := Kd.R_slice hR3; obtain ⟨A4, c4, rfl⟩ := Kd.R_slice hR4; have HBp := Lib.hid (hB1.alloc hB1.size (.cells #[.int .i64 r1, .int .i64 r2, .int .i64 r3, .slice A3 r4.length c3, .slice A4 r5.length c4] 30)); clear hR3 hR4 hB1 C1) | fail)
      go_ret
      exact ⟨rfl, HBp.out⟩
    | true =>
      by_cases h4 : 4096 < a0.size
      · have b2 : decide (4096 < (a0.size : Int)) = true := decide_eq_true (by omega)
        have b3 : (4096 < a0.size) = True := eq_true h4
        go_wp2_with (first | (go_at_call 11; refine C1.out.mono ?_; rintro e w1 ⟨v3, v4, rfl, hR3, hR4, hB1⟩; obtain ⟨A3, c3, rfl⟩ := Kd.R_slice hR3; obtain ⟨A4, c4, rfl⟩ := Kd.R_slice hR4; have HBp := Lib.hid (hB1.alloc hB1.size (.cells #[.int .i64 r1, .int .i64 r2, .int .i64 r3, .slice A3 r4.length c3, .slice A4 r5.length c4] 30)); clear hR3 hR4 hB1 C1) | fail)
        go_ret
        exact ⟨rfl, HBp.out⟩
      · have b2 : decide (4096 < (a0.size : Int)) = false := decide_eq_false (by omega)
        have b3 : (4096 < a0.size) = False := eq_false h4
        obtain ⟨L, hL, hLg⟩ := HA.out rfl
        have HLg := Lib.hid hLg
        have HL := Lib.hid hL
        clear hL hLg HA
        go_wp2_with (first | (go_at_call 11; refine C1.out.mono ?_; rintro e w1 ⟨v3, v4, rfl, hR3, hR4, hB1⟩; obtain ⟨A3, c3, rfl⟩ := Kd.R_slice hR3; obtain ⟨A4, c4, rfl⟩ := Kd.R_slice hR4; have HBp := Lib.hid (hB1.alloc hB1.size (.cells #[.int .i64 r1, .int .i64 r2, .int .i64 r3, .slice A3 r4.length c3, .slice A4 r5.length c4] 30)); have C2 := Lib.hid (spec_All.calls k r1 r2 r3 (fun _ => True) A3 c3 r4 (fun k_ => some k_ ≠ (Value.slice A3 r4.length c3).ownBlock) A4 c4 r5 L _ (Kd.R_V (Kd.R_alloc hR3 (.cells #[.int .i64 r1, .int .i64 r2, .int .i64 r3, .slice A3 r4.length c3, .slice A4 r5.length c4] 30))) (Kd.R_V (Kd.R_alloc hR4 _)) HL.out); clear hR3 hR4 hB1 C1) | (go_at_call 12; refine C2.out.mono ?_; rintro e w2 ⟨v0, rfl, hN, hB2⟩; obtain ⟨A, c, rfl, hc, hC⟩ := Kd.N_reads hN; have HC := Lib.hid hC; have HB2 := Lib.hid (HBp.out.trans (hB2.mono HBp.out.size)); have HS2 := Lib.hid hB2.size; have hcc : L.length ≤ 9223372036854775807 ∧ True := ⟨hC.2.1, trivial⟩; clear hN hC hB2 hc C2) | fail)
        go_loopg [27] (L.length + 1) (fun g v27 wc => ∃ (x : Nat), v27 = .int .i64 (x : Int) ∧ (x ≤ L.length ∧ L.length < x + g) ∧ Hid (Below w2.heap.size w2 wc))
        case atStart => exact ⟨0, by go_num, by omega, Lib.hid (Below.refl _ _)⟩
        case round =>
          obtain ⟨x, rfl, hx, HBc⟩ := hrel
          cases gk with
          | zero => omega
          | succ j =>
          by_cases hxl : x < L.length
          · have bx : decide ((x : Int) < (L.length : Int)) = true := decide_eq_true (by omega)
            have bx2 : (x < L.length) = True := eq_true hxl
            obtain ⟨ad, A3', c3', A4', c4', rfl, e0, e1, e2, e3, e4, _⟩ := at_T30 (Kd.C_below HC.out HBc.out) (x : Int) (by omega) (by omega)
            have hmem : rd_T30 L (x : Int) ∈ L := by rw [rd_at hxl]; exact List.getElem_mem _
            have HGx := Lib.hid (HLg.out _ hmem)
            obtain ⟨y, hy⟩ : ∃ y, y = rd_T30 L (x : Int) := ⟨_, rfl⟩
            rw [← hy] at e0 e1 e2 e3 e4 HGx
            clear hmem hy
            simp only [Int.toNat_natCast] at e0 e1 e2 e3 e4
            by_cases h56 : y.f0 = 5 ∨ y.f0 = 6
            · obtain ⟨b, e, hb1, hb2, hb3, hb4, hb5, hq⟩ := HGx.out h56
              rw [hb1] at e1
              rw [hb2] at e2
              have C3 := Lib.hid fun W hW => squash_impl a0 b e hsz hb3 hb5 hq W hW
              have hbe : (b ≤ e ∧ e ≤ a0.size) ∧ True := ⟨⟨hb4, hb5⟩, trivial⟩
              clear hq hb1 hb2 hb3 hb4 hb5 HGx
              rcases h56 with h5 | h5
              · rw [h5] at e0
                clear h5
                go_wp2_with (first | (go_at_call 13; refine (C3.out _ (hG.out.keep (HB2.out.trans ((HBc.out.alloc HBc.out.size _).mono (by have h1 := HBp.out.size; have h2 := HS2.out; exact Nat.le_trans h1 h2))))).mono ?_; rintro e' w4 ⟨rfl, hB4⟩; have HB4 := Lib.hid ((HBc.out.alloc HBc.out.size _).trans (hB4.mono (by simp; exact Nat.le_trans HBc.out.size (Nat.le_succ _)))); have z1 := cell_of_row w4 _ 1 _ _ _ ((hB4.block _ (by simp)).trans (heap_alloc_new _ _)); have z2 := cell_of_row w4 _ 2 _ _ _ ((hB4.block _ (by simp)).trans (heap_alloc_new _ _)); clear hB4) | fail)
                go_roundg j
                case rel => exact ⟨x + 1, by go_num, by omega, HB4⟩
                case measure => omega
              · rw [h5] at e0
                clear h5
                go_wp2_with (first | (go_at_call 13; refine (C3.out _ (hG.out.keep (HB2.out.trans ((HBc.out.alloc HBc.out.size _).mono (by have h1 := HBp.out.size; have h2 := HS2.out; exact Nat.le_trans h1 h2))))).mono ?_; rintro e' w4 ⟨rfl, hB4⟩; have HB4 := Lib.hid ((HBc.out.alloc HBc.out.size _).trans (hB4.mono (by simp; exact Nat.le_trans HBc.out.size (Nat.le_succ _)))); have z1 := cell_of_row w4 _ 1 _ _ _ ((hB4.block _ (by simp)).trans (heap_alloc_new _ _)); have z2 := cell_of_row w4 _ 2 _ _ _ ((hB4.block _ (by simp)).trans (heap_alloc_new _ _)); clear hB4) | fail)
                go_roundg j
                case rel => exact ⟨x + 1, by go_num, by omega, HB4⟩
                case measure => omega
            · have h5 : (y.f0 == 5) = false := by simp; omega
              have h6 : (y.f0 == 6) = false := by simp; omega
              clear h56 HGx
              go_wp2
              go_roundg j
              case rel => exact ⟨x + 1, by go_num, by omega, Lib.hid (HBc.out.alloc HBc.out.size _)⟩
              case measure => omega
          · have bx : decide ((x : Int) < (L.length : Int)) = false := decide_eq_false (by omega)
            have bx2 : (x < L.length) = False := eq_false hxl
            go_wp2
            go_ret
            exact ⟨rfl, HB2.out.trans (HBc.out.mono (by have h1 := HBp.out.size; have h2 := HS2.out; exact Nat.le_trans h1 h2))⟩
end Go.Proofs.YtifcmhekpbfboaaDoor
