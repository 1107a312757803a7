/- What Go functions compute, as functions of numbers and lists, and the walks that show it. No condition. Written by a program (wip/tools/mprint.py) over the kit's print. -/
import Derived.Test.YtifcmhekpbfboaaDoorMFnMtLimitMore0
import Derived.Test.YtifcmhekpbfboaaDoorMtLim
import Derived.Test.YtifcmhekpbfboaaDoorU8Gl
namespace Go.Proofs.YtifcmhekpbfboaaDoor.MFnMtLimitMore
open Go.RowKit Go.Proofs.YtifcmhekpbfboaaDoorW.PrintWords Go.Proofs.YtifcmhekpbfboaaDoorW.PrintLast Go.Proofs.YtifcmhekpbfboaaDoorW.PrintMore
attribute [local go_sem] max2_int min2_int max_two min_two max_three min_three max_four min_four   -- for this text's walks alone
set_option linter.unusedVariables false
set_option linter.unusedSimpArgs false

/-! ### match_MatchLimit: function 21 -/
def match_MatchLimit.f (k : Nat) (a0 : ByteArray) (a1 : ByteArray) (a2 : Int) : Option (Bool × Bool) := (match_matchLimit0.f k a0 a1 a2 false).bind fun bt101 => (some (bt101.1, bt101.2))
theorem match_MatchLimit.mono : ∀ a0 a1 a2 k, LeO (match_MatchLimit.f k a0 a1 a2) (match_MatchLimit.f (k + 1) a0 a1 a2) := by
 intro a0 a1 a2 k
 unfold match_MatchLimit.f
 repeat' first
   | (with_reducible exact match_matchLimit0.mono _ _ _ _ _)
   | (with_reducible exact LeO.refl _)
   | (with_reducible exact LeO.none _)
   | (with_reducible refine LeO.ite ?_ ?_)
   | (with_reducible refine LeO.bind ?_ (fun _ => ?_))
   | exact match_matchLimit0.mono _ _ _ _ _
   | exact LeO.none _
   | refine LeO.ite ?_ ?_
   | refine LeO.bind ?_ (fun _ => ?_)
set_option maxHeartbeats 8000000 in
set_option maxRecDepth 100000 in
theorem match_MatchLimit.calls (k : Nat) (a0 : ByteArray) (a1 : ByteArray) (a2 : Int) (r1 : Bool) (r2 : Bool) (w : World) (hG : GLU8 w) (h : match_MatchLimit.f k a0 a1 a2 = some (r1, r2)) :
  Calls Tryd.prog 21 #[.string a0, .string a1, .int .i64 a2] w fun e w' => e = .returned (.tuple #[.bool r1, .bool r2]) ∧ Below w.heap.size w w' := by
 have HGL := Aside0.mk hG
 clear hG
 have HB := Aside0.mk (Below.refl w.heap.size w)
 have H : ((match_matchLimit0.f k a0 a1 a2 false).bind fun bt101 => (some (bt101.1, bt101.2))) = some (r1, r2) := h
 clear h
 replace H := Option.bind_eq_some_iff.mp H
 obtain ⟨⟨t101, t102⟩, A40, H⟩ := H
 replace H : (some (t101, t102)) = some (r1, r2) := H
 have A4 := Aside0.mk A40
 clear A40
 simp only [Option.some.injEq, Prod.mk.injEq] at H
 obtain ⟨rfl, rfl⟩ := H
 go_enter Tryd.func21, Tryd.ntmps21
 go_wp2_with (first | ((with_reducible refine gate_callee (f := 32) rfl ?_); refine goesL_ (some 11) rfl rfl Tryd.func32 (by kernel_rfl) rfl #[.string a0, .string a1, .int .i64 a2, .bool false] rfl (by (try simp only [List.map_toArray, List.map_cons, List.map_nil]); first | done | rfl | (simp only [List.length_drop, List.length_take]; rfl)) ?_; (with_reducible refine (match_matchLimit0.calls k a0 a1 a2 false t101 t102 _ ?side1 A4.out).mono ?_); (case side1 => exact GLU8.keep HGL.out (by repeat (first | (with_reducible first | exact HB.out | apply below_alloc | apply pw_below_drewN | apply below_drew1) | exact HB.out))); rintro e w5 ⟨rfl, hb⟩; refine ⟨_, rfl, ?_⟩; have n0_ := Aside0.mk (below_step (by repeat (first | (with_reducible first | exact HB.out | apply below_alloc | apply pw_below_drewN | apply below_drew1) | exact HB.out)) hb); clear HB; have HB := n0_; clear n0_; (try clear hb); (try clear hb2); (try clear hk); (try clear hi)))
 go_ret2
 exact ⟨by first | rfl | (simp [errW_none, errW_some] <;> rfl) | (simp [*, errW_none, errW_some] <;> rfl), by repeat (first | (with_reducible first | exact HB.out | apply below_alloc | apply pw_below_drewN | apply below_drew1) | exact HB.out)⟩

/-! ### impl_MtLimit: function 14 -/
def impl_MtLimit.f (k : Nat) (a0 : ByteArray) (a1 : ByteArray) (a2 : Int) : Option (Bool × Bool) := (match_MatchLimit.f k a0 a1 a2).bind fun bt103 => (some (bt103.1, bt103.2))
theorem impl_MtLimit.mono : ∀ a0 a1 a2 k, LeO (impl_MtLimit.f k a0 a1 a2) (impl_MtLimit.f (k + 1) a0 a1 a2) := by
 intro a0 a1 a2 k
 unfold impl_MtLimit.f
 repeat' first
   | (with_reducible exact match_MatchLimit.mono _ _ _ _)
   | (with_reducible exact LeO.refl _)
   | (with_reducible exact LeO.none _)
   | (with_reducible refine LeO.ite ?_ ?_)
   | (with_reducible refine LeO.bind ?_ (fun _ => ?_))
   | exact match_MatchLimit.mono _ _ _ _
   | exact LeO.none _
   | refine LeO.ite ?_ ?_
   | refine LeO.bind ?_ (fun _ => ?_)
set_option maxHeartbeats 8000000 in
set_option maxRecDepth 100000 in
theorem impl_MtLimit.calls (k : Nat) (a0 : ByteArray) (a1 : ByteArray) (a2 : Int) (r1 : Bool) (r2 : Bool) (w : World) (hG : GLU8 w) (h : impl_MtLimit.f k a0 a1 a2 = some (r1, r2)) :
  Calls Tryd.prog 14 #[.string a0, .string a1, .int .i64 a2] w fun e w' => e = .returned (.tuple #[.bool r1, .bool r2]) ∧ Below w.heap.size w w' := by
 have HGL := Aside0.mk hG
 clear hG
 have HB := Aside0.mk (Below.refl w.heap.size w)
 have H : ((match_MatchLimit.f k a0 a1 a2).bind fun bt103 => (some (bt103.1, bt103.2))) = some (r1, r2) := h
 clear h
 replace H := Option.bind_eq_some_iff.mp H
 obtain ⟨⟨t103, t104⟩, A40, H⟩ := H
 replace H : (some (t103, t104)) = some (r1, r2) := H
 have A4 := Aside0.mk A40
 clear A40
 simp only [Option.some.injEq, Prod.mk.injEq] at H
 obtain ⟨rfl, rfl⟩ := H
 go_enter Tryd.func14, Tryd.ntmps14
 go_wp2_with (first | ((with_reducible refine gate_callee (f := 21) rfl ?_); refine goesL_ (some 11) rfl rfl Tryd.func21 (by kernel_rfl) rfl #[.string a0, .string a1, .int .i64 a2] rfl (by (try simp only [List.map_toArray, List.map_cons, List.map_nil]); first | done | rfl | (simp only [List.length_drop, List.length_take]; rfl)) ?_; (with_reducible refine (match_MatchLimit.calls k a0 a1 a2 t103 t104 _ ?side1 A4.out).mono ?_); (case side1 => exact GLU8.keep HGL.out (by repeat (first | (with_reducible first | exact HB.out | apply below_alloc | apply pw_below_drewN | apply below_drew1) | exact HB.out))); rintro e w5 ⟨rfl, hb⟩; refine ⟨_, rfl, ?_⟩; have n0_ := Aside0.mk (below_step (by repeat (first | (with_reducible first | exact HB.out | apply below_alloc | apply pw_below_drewN | apply below_drew1) | exact HB.out)) hb); clear HB; have HB := n0_; clear n0_; (try clear hb); (try clear hb2); (try clear hk); (try clear hi)))
 go_ret2
 exact ⟨by first | rfl | (simp [errW_none, errW_some] <;> rfl) | (simp [*, errW_none, errW_some] <;> rfl), by repeat (first | (with_reducible first | exact HB.out | apply below_alloc | apply pw_below_drewN | apply below_drew1) | exact HB.out)⟩

/-! ### laws_FnMtLimitMore: function 6 -/
mutual
def laws_FnMtLimitMore.j0 : Nat → ByteArray → ByteArray → Int → Int → Bool → Option (Bool)
 | 0, _, _, _, _, _ => none
 | k + 1, x0, x1, x2, x3, x22 => if x22 = true then (some true) else (if (x0.size : Int) > 4096 then (laws_FnMtLimitMore.j1 k x0 x1 x2 x3 true) else (if (x1.size : Int) > 4096 then (laws_FnMtLimitMore.j1 k x0 x1 x2 x3 true) else (if x2 < 0 then (laws_FnMtLimitMore.j1 k x0 x1 x2 x3 true) else (if x3 < 0 then (laws_FnMtLimitMore.j1 k x0 x1 x2 x3 true) else (if x2 > 1000000 then (laws_FnMtLimitMore.j1 k x0 x1 x2 x3 true) else (laws_FnMtLimitMore.j1 k x0 x1 x2 x3 (decide (x3 > (wrap64 (1000000 - x2))))))))))
def laws_FnMtLimitMore.j1 : Nat → ByteArray → ByteArray → Int → Int → Bool → Option (Bool)
 | 0, _, _, _, _, _ => none
 | k + 1, x0, x1, x2, x3, x48 => if x48 = true then (some true) else ((impl_MtLimit.f k x0 (⟨#[42]⟩ : ByteArray) (wrap64 (x2 + x3))).bind fun bt105 => ((impl_MtLimit.f k x0 x1 x2).bind fun bt107 => ((impl_MtLimit.f k x0 x1 (wrap64 (x2 + x3))).bind fun bt109 => (if bt105.1 = true then (if bt105.2 = true then (some false) else (if bt107.2 = true then (some true) else (if bt109.2 = true then (some false) else (some (bt107.1 == bt109.1))))) else (some false)))))
end
def laws_FnMtLimitMore.f (k : Nat) (a0 : ByteArray) (a1 : ByteArray) (a2 : Int) (a3 : Int) : Option (Bool) := if (a0.size : Int) > 2147483647 then (laws_FnMtLimitMore.j0 k a0 a1 a2 a3 true) else (laws_FnMtLimitMore.j0 k a0 a1 a2 a3 (decide ((a1.size : Int) > 2147483647)))
theorem laws_FnMtLimitMore.mono_l : ∀ k, (∀ y0 y1 y2 y3 y4, LeO (laws_FnMtLimitMore.j0 k y0 y1 y2 y3 y4) (laws_FnMtLimitMore.j0 (k + 1) y0 y1 y2 y3 y4)) ∧ (∀ y0 y1 y2 y3 y4, LeO (laws_FnMtLimitMore.j1 k y0 y1 y2 y3 y4) (laws_FnMtLimitMore.j1 (k + 1) y0 y1 y2 y3 y4))
 | 0 => ⟨fun _ _ _ _ _ r h => by simp [laws_FnMtLimitMore.j0] at h, fun _ _ _ _ _ r h => by simp [laws_FnMtLimitMore.j1] at h⟩
 | k + 1 => by
  obtain ⟨ih0, ih1⟩ := laws_FnMtLimitMore.mono_l k
  refine ⟨?_, ?_⟩
  ·
   intro y0 y1 y2 y3 y4
   unfold laws_FnMtLimitMore.j0
   repeat' first
   | (with_reducible exact ih0 _ _ _ _ _)
   | (with_reducible exact ih1 _ _ _ _ _)
   | (with_reducible exact impl_MtLimit.mono _ _ _ _)
   | (with_reducible exact LeO.refl _)
   | (with_reducible exact LeO.none _)
   | (with_reducible refine LeO.ite ?_ ?_)
   | (with_reducible refine LeO.bind ?_ (fun _ => ?_))
   | exact ih0 _ _ _ _ _
   | exact ih1 _ _ _ _ _
   | exact impl_MtLimit.mono _ _ _ _
   | exact LeO.none _
   | refine LeO.ite ?_ ?_
   | refine LeO.bind ?_ (fun _ => ?_)
  ·
   intro y0 y1 y2 y3 y4
   unfold laws_FnMtLimitMore.j1
   repeat' first
   | (with_reducible exact ih0 _ _ _ _ _)
   | (with_reducible exact ih1 _ _ _ _ _)
   | (with_reducible exact impl_MtLimit.mono _ _ _ _)
   | (with_reducible exact LeO.refl _)
   | (with_reducible exact LeO.none _)
   | (with_reducible refine LeO.ite ?_ ?_)
   | (with_reducible refine LeO.bind ?_ (fun _ => ?_))
   | exact ih0 _ _ _ _ _
   | exact ih1 _ _ _ _ _
   | exact impl_MtLimit.mono _ _ _ _
   | exact LeO.none _
   | refine LeO.ite ?_ ?_
   | refine LeO.bind ?_ (fun _ => ?_)
theorem laws_FnMtLimitMore.mono : ∀ a0 a1 a2 a3 k, LeO (laws_FnMtLimitMore.f k a0 a1 a2 a3) (laws_FnMtLimitMore.f (k + 1) a0 a1 a2 a3) := by
 intro a0 a1 a2 a3 k
 obtain ⟨ih0, ih1⟩ := laws_FnMtLimitMore.mono_l k
 unfold laws_FnMtLimitMore.f
 repeat' first
   | (with_reducible exact ih0 _ _ _ _ _)
   | (with_reducible exact ih1 _ _ _ _ _)
   | (with_reducible exact impl_MtLimit.mono _ _ _ _)
   | (with_reducible exact LeO.refl _)
   | (with_reducible exact LeO.none _)
   | (with_reducible refine LeO.ite ?_ ?_)
   | (with_reducible refine LeO.bind ?_ (fun _ => ?_))
   | exact ih0 _ _ _ _ _
   | exact ih1 _ _ _ _ _
   | exact impl_MtLimit.mono _ _ _ _
   | exact LeO.none _
   | refine LeO.ite ?_ ?_
   | refine LeO.bind ?_ (fun _ => ?_)
set_option maxHeartbeats 8000000 in
set_option maxRecDepth 100000 in
theorem laws_FnMtLimitMore.calls (k : Nat) (a0 : ByteArray) (a1 : ByteArray) (a2 : Int) (a3 : Int) (r : Bool) (w : World) (hG : GLU8 w) (h : laws_FnMtLimitMore.f k a0 a1 a2 a3 = some r) :
  Calls Tryd.prog 6 #[.string a0, .string a1, .int .i64 a2, .int .i64 a3] w fun e w' => e = .returned (.bool r) ∧ Below w.heap.size w w' := by
 have HGL := Aside0.mk hG
 clear hG
 have HB := Aside0.mk (Below.refl w.heap.size w)
 have H : (if (a0.size : Int) > 2147483647 then (laws_FnMtLimitMore.j0 k a0 a1 a2 a3 true) else (laws_FnMtLimitMore.j0 k a0 a1 a2 a3 (decide ((a1.size : Int) > 2147483647)))) = some r := h
 clear h
 have HC5 := Aside0.mk H
 clear H
 go_enter Tryd.func6, Tryd.ntmps6
 go_upto_region 1 with (fail)
 go_cut [22] (fun v22 wc => ∃ (kq : Nat) (x22_4 : Bool), v22 = .bool x22_4 ∧ Aside0 (laws_FnMtLimitMore.j0 kq a0 a1 a2 a3 x22_4 = some r) ∧ Aside0 (kq ≤ k) ∧ Aside0 (Below w.heap.size w wc))
 case first =>
  have H := HC5.out
  clear HC5
  by_cases c6 : (a0.size : Int) > 2147483647
  ·
   rw [if_pos c6] at H
   have c6b0 : decide (2147483647 < (a0.size : Int)) = true := decide_eq_true c6
   have c6b1 : decide (2147483647 < a0.size) = true := decide_eq_true (by omega)
   clear c6
   (first | rw [c6b0] | (simp only [i64_w, i32_w]; rw [c6b0]) | skip)
   have H' := Aside0.mk H
   clear H
   go_wp2
   go_meet
   case rel => exact ⟨_, (true), (by first | rfl | (simp; done) | (simp [*]; done) | (simp; rw [Bool.eq_iff_iff]; simp; done)), H', ⟨by first | omega | exact Nat.le_refl _⟩, ⟨by repeat (first | (with_reducible first | exact HB.out | apply below_alloc | apply pw_below_drewN | apply below_drew1) | exact HB.out)⟩⟩
  ·
   rw [if_neg c6] at H
   have c6b0 : decide (2147483647 < (a0.size : Int)) = false := decide_eq_false c6
   have c6b1 : decide (2147483647 < a0.size) = false := decide_eq_false (by omega)
   clear c6
   (first | rw [c6b0] | (simp only [i64_w, i32_w]; rw [c6b0]) | skip)
   have H' := Aside0.mk H
   clear H
   go_wp2
   go_meet
   case rel => exact ⟨_, (decide ((a1.size : Int) > 2147483647)), (by first | rfl | (simp; done) | (simp [*]; done) | (simp; rw [Bool.eq_iff_iff]; simp; done)), H', ⟨by first | omega | exact Nat.le_refl _⟩, ⟨by repeat (first | (with_reducible first | exact HB.out | apply below_alloc | apply pw_below_drewN | apply below_drew1) | exact HB.out)⟩⟩
 case rest =>
  clear HC5
  (try clear p2); (try clear c6); (try clear c6b0); (try clear c6b1)
  obtain ⟨kq, x22_4, rfl, HA, HJ4, HB⟩ := hcut
  cases kq with
  | zero => exact absurd HA.out (by simp [laws_FnMtLimitMore.j0])
  | succ kj4 =>
   have H := HA.out
   clear HA
   simp only [laws_FnMtLimitMore.j0] at H
   by_cases c7 : x22_4 = true
   ·
    subst c7
    have H1 : (some true) = some r := by rw [if_pos rfl] at H; exact H
    clear H
    have H := H1
    clear H1
    obtain rfl := Option.some.inj H
    go_wp2
    go_ret
    exact ⟨by first | rfl | (simp [errW_none, errW_some] <;> rfl) | (simp [*, errW_none, errW_some] <;> rfl), by repeat (first | (with_reducible first | exact HB.out | apply below_alloc | apply pw_below_drewN | apply below_drew1) | exact HB.out)⟩
   ·
    replace c7 := Bool.eq_false_iff.mpr c7
    subst c7
    have H1 : (if (a0.size : Int) > 4096 then (laws_FnMtLimitMore.j1 kj4 a0 a1 a2 a3 true) else (if (a1.size : Int) > 4096 then (laws_FnMtLimitMore.j1 kj4 a0 a1 a2 a3 true) else (if a2 < 0 then (laws_FnMtLimitMore.j1 kj4 a0 a1 a2 a3 true) else (if a3 < 0 then (laws_FnMtLimitMore.j1 kj4 a0 a1 a2 a3 true) else (if a2 > 1000000 then (laws_FnMtLimitMore.j1 kj4 a0 a1 a2 a3 true) else (laws_FnMtLimitMore.j1 kj4 a0 a1 a2 a3 (decide (a3 > (wrap64 (1000000 - a2)))))))))) = some r := by rw [if_neg (show ¬ (false = true) by decide)] at H; exact H
    clear H
    have H := H1
    clear H1
    have HC8 := Aside0.mk H
    clear H
    go_upto_region 3 with (fail)
    go_cut [48] (fun v48 wc => ∃ (kq : Nat) (x48_7 : Bool), v48 = .bool x48_7 ∧ Aside0 (laws_FnMtLimitMore.j1 kq a0 a1 a2 a3 x48_7 = some r) ∧ Aside0 (kq ≤ kj4) ∧ Aside0 (Below w.heap.size w wc))
    case first =>
     have H := HC8.out
     clear HC8
     by_cases c9 : (a0.size : Int) > 4096
     ·
      rw [if_pos c9] at H
      have c9b0 : decide (4096 < (a0.size : Int)) = true := decide_eq_true c9
      have c9b1 : decide (4096 < a0.size) = true := decide_eq_true (by omega)
      clear c9
      (first | rw [c9b0] | (simp only [i64_w, i32_w]; rw [c9b0]) | skip)
      have H' := Aside0.mk H
      clear H
      go_wp2
      go_meet
      case rel => exact ⟨_, (true), (by first | rfl | (simp; done) | (simp [*]; done) | (simp; rw [Bool.eq_iff_iff]; simp; done)), H', ⟨by have := HJ4.out; first | omega | exact Nat.le_refl _⟩, ⟨by repeat (first | (with_reducible first | exact HB.out | apply below_alloc | apply pw_below_drewN | apply below_drew1) | exact HB.out)⟩⟩
     ·
      rw [if_neg c9] at H
      have c9b0 : decide (4096 < (a0.size : Int)) = false := decide_eq_false c9
      have c9b1 : decide (4096 < a0.size) = false := decide_eq_false (by omega)
      clear c9
      (first | rw [c9b0] | (simp only [i64_w, i32_w]; rw [c9b0]) | skip)
      by_cases c10 : (a1.size : Int) > 4096
      ·
       rw [if_pos c10] at H
       have c10b0 : decide (4096 < (a1.size : Int)) = true := decide_eq_true c10
       have c10b1 : decide (4096 < a1.size) = true := decide_eq_true (by omega)
       clear c10
       have H' := Aside0.mk H
       clear H
       go_wp2
       go_meet
       case rel => exact ⟨_, (true), (by first | rfl | (simp; done) | (simp [*]; done) | (simp; rw [Bool.eq_iff_iff]; simp; done)), H', ⟨by have := HJ4.out; first | omega | exact Nat.le_refl _⟩, ⟨by repeat (first | (with_reducible first | exact HB.out | apply below_alloc | apply pw_below_drewN | apply below_drew1) | exact HB.out)⟩⟩
      ·
       rw [if_neg c10] at H
       have c10b0 : decide (4096 < (a1.size : Int)) = false := decide_eq_false c10
       have c10b1 : decide (4096 < a1.size) = false := decide_eq_false (by omega)
       clear c10
       by_cases c11 : a2 < 0
       ·
        rw [if_pos c11] at H
        have c11b0 : decide (a2 < 0) = true := decide_eq_true c11
        clear c11
        have H' := Aside0.mk H
        clear H
        go_wp2
        go_meet
        case rel => exact ⟨_, (true), (by first | rfl | (simp; done) | (simp [*]; done) | (simp; rw [Bool.eq_iff_iff]; simp; done)), H', ⟨by have := HJ4.out; first | omega | exact Nat.le_refl _⟩, ⟨by repeat (first | (with_reducible first | exact HB.out | apply below_alloc | apply pw_below_drewN | apply below_drew1) | exact HB.out)⟩⟩
       ·
        rw [if_neg c11] at H
        have c11b0 : decide (a2 < 0) = false := decide_eq_false c11
        clear c11
        by_cases c12 : a3 < 0
        ·
         rw [if_pos c12] at H
         have c12b0 : decide (a3 < 0) = true := decide_eq_true c12
         clear c12
         have H' := Aside0.mk H
         clear H
         go_wp2
         go_meet
         case rel => exact ⟨_, (true), (by first | rfl | (simp; done) | (simp [*]; done) | (simp; rw [Bool.eq_iff_iff]; simp; done)), H', ⟨by have := HJ4.out; first | omega | exact Nat.le_refl _⟩, ⟨by repeat (first | (with_reducible first | exact HB.out | apply below_alloc | apply pw_below_drewN | apply below_drew1) | exact HB.out)⟩⟩
        ·
         rw [if_neg c12] at H
         have c12b0 : decide (a3 < 0) = false := decide_eq_false c12
         clear c12
         by_cases c13 : a2 > 1000000
         ·
          rw [if_pos c13] at H
          have c13b0 : decide (1000000 < a2) = true := decide_eq_true c13
          clear c13
          have H' := Aside0.mk H
          clear H
          go_wp2
          go_meet
          case rel => exact ⟨_, (true), (by first | rfl | (simp; done) | (simp [*]; done) | (simp; rw [Bool.eq_iff_iff]; simp; done)), H', ⟨by have := HJ4.out; first | omega | exact Nat.le_refl _⟩, ⟨by repeat (first | (with_reducible first | exact HB.out | apply below_alloc | apply pw_below_drewN | apply below_drew1) | exact HB.out)⟩⟩
         ·
          rw [if_neg c13] at H
          have c13b0 : decide (1000000 < a2) = false := decide_eq_false c13
          clear c13
          have H' := Aside0.mk H
          clear H
          go_wp2
          go_meet
          case rel => exact ⟨_, (decide (a3 > (wrap64 (1000000 - a2)))), (by first | rfl | (simp; done) | (simp [*]; done) | (simp; rw [Bool.eq_iff_iff]; simp; done)), H', ⟨by have := HJ4.out; first | omega | exact Nat.le_refl _⟩, ⟨by repeat (first | (with_reducible first | exact HB.out | apply below_alloc | apply pw_below_drewN | apply below_drew1) | exact HB.out)⟩⟩
    case rest =>
     clear HC8
     (try clear c1); (try clear p2); (try clear c6); (try clear c6b0); (try clear c6b1); (try clear p6); (try clear c7); (try clear c9); (try clear c9b0); (try clear c9b1); (try clear c10); (try clear c10b0); (try clear c10b1); (try clear c11); (try clear c11b0); (try clear c12); (try clear c12b0); (try clear c13); (try clear c13b0); (try clear p2)
     obtain ⟨kq, x48_7, rfl, HA, HJ7, HB⟩ := hcut
     cases kq with
     | zero => exact absurd HA.out (by simp [laws_FnMtLimitMore.j1])
     | succ kj7 =>
      have H := HA.out
      clear HA
      simp only [laws_FnMtLimitMore.j1] at H
      by_cases c14 : x48_7 = true
      ·
       subst c14
       have H1 : (some true) = some r := by rw [if_pos rfl] at H; exact H
       clear H
       have H := H1
       clear H1
       obtain rfl := Option.some.inj H
       go_wp2
       go_ret
       exact ⟨by first | rfl | (simp [errW_none, errW_some] <;> rfl) | (simp [*, errW_none, errW_some] <;> rfl), by repeat (first | (with_reducible first | exact HB.out | apply below_alloc | apply pw_below_drewN | apply below_drew1) | exact HB.out)⟩
      ·
       replace c14 := Bool.eq_false_iff.mpr c14
       subst c14
       have H1 : ((impl_MtLimit.f kj7 a0 (⟨#[42]⟩ : ByteArray) (wrap64 (a2 + a3))).bind fun bt105 => ((impl_MtLimit.f kj7 a0 a1 a2).bind fun bt107 => ((impl_MtLimit.f kj7 a0 a1 (wrap64 (a2 + a3))).bind fun bt109 => (if bt105.1 = true then (if bt105.2 = true then (some false) else (if bt107.2 = true then (some true) else (if bt109.2 = true then (some false) else (some (bt107.1 == bt109.1))))) else (some false))))) = some r := by rw [if_neg (show ¬ (false = true) by decide)] at H; exact H
       clear H
       have H := H1
       clear H1
       replace H := Option.bind_eq_some_iff.mp H
       obtain ⟨⟨t105, t106⟩, A150, H⟩ := H
       replace H : ((impl_MtLimit.f kj7 a0 a1 a2).bind fun bt107 => ((impl_MtLimit.f kj7 a0 a1 (wrap64 (a2 + a3))).bind fun bt109 => (if t105 = true then (if t106 = true then (some false) else (if bt107.2 = true then (some true) else (if bt109.2 = true then (some false) else (some (bt107.1 == bt109.1))))) else (some false)))) = some r := H
       have A15 := Aside0.mk A150
       clear A150
       replace H := Option.bind_eq_some_iff.mp H
       obtain ⟨⟨t107, t108⟩, A160, H⟩ := H
       replace H : ((impl_MtLimit.f kj7 a0 a1 (wrap64 (a2 + a3))).bind fun bt109 => (if t105 = true then (if t106 = true then (some false) else (if t108 = true then (some true) else (if bt109.2 = true then (some false) else (some (t107 == bt109.1))))) else (some false))) = some r := H
       have A16 := Aside0.mk A160
       clear A160
       replace H := Option.bind_eq_some_iff.mp H
       obtain ⟨⟨t109, t110⟩, A170, H⟩ := H
       replace H : (if t105 = true then (if t106 = true then (some false) else (if t108 = true then (some true) else (if t110 = true then (some false) else (some (t107 == t109))))) else (some false)) = some r := H
       have A17 := Aside0.mk A170
       clear A170
       by_cases c18 : t105 = true
       ·
        subst c18
        have H1 : (if t106 = true then (some false) else (if t108 = true then (some true) else (if t110 = true then (some false) else (some (t107 == t109))))) = some r := by rw [if_pos rfl] at H; exact H
        clear H
        have H := H1
        clear H1
        by_cases c19 : t106 = true
        ·
         subst c19
         have H1 : (some false) = some r := by rw [if_pos rfl] at H; exact H
         clear H
         have H := H1
         clear H1
         obtain rfl := Option.some.inj H
         go_wp2_with (first | ((with_reducible refine gate_callee (f := 14) rfl ?_); refine goesL_ (some 54) rfl rfl Tryd.func14 (by kernel_rfl) rfl #[.string a0, .string (⟨#[42]⟩ : ByteArray), .int .i64 (wrap64 (a2 + a3))] rfl (by (try simp only [List.map_toArray, List.map_cons, List.map_nil]); first | done | rfl | (simp only [List.length_drop, List.length_take]; rfl)) ?_; (with_reducible refine (impl_MtLimit.calls kj7 a0 (⟨#[42]⟩ : ByteArray) (wrap64 (a2 + a3)) true true _ ?side1 A15.out).mono ?_); (case side1 => exact GLU8.keep HGL.out (by repeat (first | (with_reducible first | exact HB.out | apply below_alloc | apply pw_below_drewN | apply below_drew1) | exact HB.out))); rintro e w20 ⟨rfl, hb⟩; refine ⟨_, rfl, ?_⟩; have n0_ := Aside0.mk (below_step (by repeat (first | (with_reducible first | exact HB.out | apply below_alloc | apply pw_below_drewN | apply below_drew1) | exact HB.out)) hb); clear HB; have HB := n0_; clear n0_; (try clear hb); (try clear hb2); (try clear hk); (try clear hi)) | ((with_reducible refine gate_callee (f := 14) rfl ?_); refine goesL_ (some 61) rfl rfl Tryd.func14 (by kernel_rfl) rfl #[.string a0, .string a1, .int .i64 a2] rfl (by (try simp only [List.map_toArray, List.map_cons, List.map_nil]); first | done | rfl | (simp only [List.length_drop, List.length_take]; rfl)) ?_; (with_reducible refine (impl_MtLimit.calls kj7 a0 a1 a2 t107 t108 _ ?side1 A16.out).mono ?_); (case side1 => exact GLU8.keep HGL.out (by repeat (first | (with_reducible first | exact HB.out | apply below_alloc | apply pw_below_drewN | apply below_drew1) | exact HB.out))); rintro e w21 ⟨rfl, hb⟩; refine ⟨_, rfl, ?_⟩; have n0_ := Aside0.mk (below_step (by repeat (first | (with_reducible first | exact HB.out | apply below_alloc | apply pw_below_drewN | apply below_drew1) | exact HB.out)) hb); clear HB; have HB := n0_; clear n0_; (try clear hb); (try clear hb2); (try clear hk); (try clear hi)) | ((with_reducible refine gate_callee (f := 14) rfl ?_); refine goesL_ (some 70) rfl rfl Tryd.func14 (by kernel_rfl) rfl #[.string a0, .string a1, .int .i64 (wrap64 (a2 + a3))] rfl (by (try simp only [List.map_toArray, List.map_cons, List.map_nil]); first | done | rfl | (simp only [List.length_drop, List.length_take]; rfl)) ?_; (with_reducible refine (impl_MtLimit.calls kj7 a0 a1 (wrap64 (a2 + a3)) t109 t110 _ ?side1 A17.out).mono ?_); (case side1 => exact GLU8.keep HGL.out (by repeat (first | (with_reducible first | exact HB.out | apply below_alloc | apply pw_below_drewN | apply below_drew1) | exact HB.out))); rintro e w22 ⟨rfl, hb⟩; refine ⟨_, rfl, ?_⟩; have n0_ := Aside0.mk (below_step (by repeat (first | (with_reducible first | exact HB.out | apply below_alloc | apply pw_below_drewN | apply below_drew1) | exact HB.out)) hb); clear HB; have HB := n0_; clear n0_; (try clear hb); (try clear hb2); (try clear hk); (try clear hi)))
         go_ret
         exact ⟨by first | rfl | (simp [errW_none, errW_some] <;> rfl) | (simp [*, errW_none, errW_some] <;> rfl), by repeat (first | (with_reducible first | exact HB.out | apply below_alloc | apply pw_below_drewN | apply below_drew1) | exact HB.out)⟩
        ·
         replace c19 := Bool.eq_false_iff.mpr c19
         subst c19
         have H1 : (if t108 = true then (some true) else (if t110 = true then (some false) else (some (t107 == t109)))) = some r := by rw [if_neg (show ¬ (false = true) by decide)] at H; exact H
         clear H
         have H := H1
         clear H1
         by_cases c23 : t108 = true
         ·
          subst c23
          have H1 : (some true) = some r := by rw [if_pos rfl] at H; exact H
          clear H
          have H := H1
          clear H1
          obtain rfl := Option.some.inj H
          go_wp2_with (first | ((with_reducible refine gate_callee (f := 14) rfl ?_); refine goesL_ (some 54) rfl rfl Tryd.func14 (by kernel_rfl) rfl #[.string a0, .string (⟨#[42]⟩ : ByteArray), .int .i64 (wrap64 (a2 + a3))] rfl (by (try simp only [List.map_toArray, List.map_cons, List.map_nil]); first | done | rfl | (simp only [List.length_drop, List.length_take]; rfl)) ?_; (with_reducible refine (impl_MtLimit.calls kj7 a0 (⟨#[42]⟩ : ByteArray) (wrap64 (a2 + a3)) true false _ ?side1 A15.out).mono ?_); (case side1 => exact GLU8.keep HGL.out (by repeat (first | (with_reducible first | exact HB.out | apply below_alloc | apply pw_below_drewN | apply below_drew1) | exact HB.out))); rintro e w24 ⟨rfl, hb⟩; refine ⟨_, rfl, ?_⟩; have n0_ := Aside0.mk (below_step (by repeat (first | (with_reducible first | exact HB.out | apply below_alloc | apply pw_below_drewN | apply below_drew1) | exact HB.out)) hb); clear HB; have HB := n0_; clear n0_; (try clear hb); (try clear hb2); (try clear hk); (try clear hi)) | ((with_reducible refine gate_callee (f := 14) rfl ?_); refine goesL_ (some 61) rfl rfl Tryd.func14 (by kernel_rfl) rfl #[.string a0, .string a1, .int .i64 a2] rfl (by (try simp only [List.map_toArray, List.map_cons, List.map_nil]); first | done | rfl | (simp only [List.length_drop, List.length_take]; rfl)) ?_; (with_reducible refine (impl_MtLimit.calls kj7 a0 a1 a2 t107 true _ ?side1 A16.out).mono ?_); (case side1 => exact GLU8.keep HGL.out (by repeat (first | (with_reducible first | exact HB.out | apply below_alloc | apply pw_below_drewN | apply below_drew1) | exact HB.out))); rintro e w25 ⟨rfl, hb⟩; refine ⟨_, rfl, ?_⟩; have n0_ := Aside0.mk (below_step (by repeat (first | (with_reducible first | exact HB.out | apply below_alloc | apply pw_below_drewN | apply below_drew1) | exact HB.out)) hb); clear HB; have HB := n0_; clear n0_; (try clear hb); (try clear hb2); (try clear hk); (try clear hi)) | ((with_reducible refine gate_callee (f := 14) rfl ?_); refine goesL_ (some 70) rfl rfl Tryd.func14 (by kernel_rfl) rfl #[.string a0, .string a1, .int .i64 (wrap64 (a2 + a3))] rfl (by (try simp only [List.map_toArray, List.map_cons, List.map_nil]); first | done | rfl | (simp only [List.length_drop, List.length_take]; rfl)) ?_; (with_reducible refine (impl_MtLimit.calls kj7 a0 a1 (wrap64 (a2 + a3)) t109 t110 _ ?side1 A17.out).mono ?_); (case side1 => exact GLU8.keep HGL.out (by repeat (first | (with_reducible first | exact HB.out | apply below_alloc | apply pw_below_drewN | apply below_drew1) | exact HB.out))); rintro e w26 ⟨rfl, hb⟩; refine ⟨_, rfl, ?_⟩; have n0_ := Aside0.mk (below_step (by repeat (first | (with_reducible first | exact HB.out | apply below_alloc | apply pw_below_drewN | apply below_drew1) | exact HB.out)) hb); clear HB; have HB := n0_; clear n0_; (try clear hb); (try clear hb2); (try clear hk); (try clear hi)))
          go_ret
          exact ⟨by first | rfl | (simp [errW_none, errW_some] <;> rfl) | (simp [*, errW_none, errW_some] <;> rfl), by repeat (first | (with_reducible first | exact HB.out | apply below_alloc | apply pw_below_drewN | apply below_drew1) | exact HB.out)⟩
         ·
          replace c23 := Bool.eq_false_iff.mpr c23
          subst c23
          have H1 : (if t110 = true then (some false) else (some (t107 == t109))) = some r := by rw [if_neg (show ¬ (false = true) by decide)] at H; exact H
          clear H
          have H := H1
          clear H1
          by_cases c27 : t110 = true
          ·
           subst c27
           have H1 : (some false) = some r := by rw [if_pos rfl] at H; exact H
           clear H
           have H := H1
           clear H1
           obtain rfl := Option.some.inj H
           go_wp2_with (first | ((with_reducible refine gate_callee (f := 14) rfl ?_); refine goesL_ (some 54) rfl rfl Tryd.func14 (by kernel_rfl) rfl #[.string a0, .string (⟨#[42]⟩ : ByteArray), .int .i64 (wrap64 (a2 + a3))] rfl (by (try simp only [List.map_toArray, List.map_cons, List.map_nil]); first | done | rfl | (simp only [List.length_drop, List.length_take]; rfl)) ?_; (with_reducible refine (impl_MtLimit.calls kj7 a0 (⟨#[42]⟩ : ByteArray) (wrap64 (a2 + a3)) true false _ ?side1 A15.out).mono ?_); (case side1 => exact GLU8.keep HGL.out (by repeat (first | (with_reducible first | exact HB.out | apply below_alloc | apply pw_below_drewN | apply below_drew1) | exact HB.out))); rintro e w28 ⟨rfl, hb⟩; refine ⟨_, rfl, ?_⟩; have n0_ := Aside0.mk (below_step (by repeat (first | (with_reducible first | exact HB.out | apply below_alloc | apply pw_below_drewN | apply below_drew1) | exact HB.out)) hb); clear HB; have HB := n0_; clear n0_; (try clear hb); (try clear hb2); (try clear hk); (try clear hi)) | ((with_reducible refine gate_callee (f := 14) rfl ?_); refine goesL_ (some 61) rfl rfl Tryd.func14 (by kernel_rfl) rfl #[.string a0, .string a1, .int .i64 a2] rfl (by (try simp only [List.map_toArray, List.map_cons, List.map_nil]); first | done | rfl | (simp only [List.length_drop, List.length_take]; rfl)) ?_; (with_reducible refine (impl_MtLimit.calls kj7 a0 a1 a2 t107 false _ ?side1 A16.out).mono ?_); (case side1 => exact GLU8.keep HGL.out (by repeat (first | (with_reducible first | exact HB.out | apply below_alloc | apply pw_below_drewN | apply below_drew1) | exact HB.out))); rintro e w29 ⟨rfl, hb⟩; refine ⟨_, rfl, ?_⟩; have n0_ := Aside0.mk (below_step (by repeat (first | (with_reducible first | exact HB.out | apply below_alloc | apply pw_below_drewN | apply below_drew1) | exact HB.out)) hb); clear HB; have HB := n0_; clear n0_; (try clear hb); (try clear hb2); (try clear hk); (try clear hi)) | ((with_reducible refine gate_callee (f := 14) rfl ?_); refine goesL_ (some 70) rfl rfl Tryd.func14 (by kernel_rfl) rfl #[.string a0, .string a1, .int .i64 (wrap64 (a2 + a3))] rfl (by (try simp only [List.map_toArray, List.map_cons, List.map_nil]); first | done | rfl | (simp only [List.length_drop, List.length_take]; rfl)) ?_; (with_reducible refine (impl_MtLimit.calls kj7 a0 a1 (wrap64 (a2 + a3)) t109 true _ ?side1 A17.out).mono ?_); (case side1 => exact GLU8.keep HGL.out (by repeat (first | (with_reducible first | exact HB.out | apply below_alloc | apply pw_below_drewN | apply below_drew1) | exact HB.out))); rintro e w30 ⟨rfl, hb⟩; refine ⟨_, rfl, ?_⟩; have n0_ := Aside0.mk (below_step (by repeat (first | (with_reducible first | exact HB.out | apply below_alloc | apply pw_below_drewN | apply below_drew1) | exact HB.out)) hb); clear HB; have HB := n0_; clear n0_; (try clear hb); (try clear hb2); (try clear hk); (try clear hi)))
           go_ret
           exact ⟨by first | rfl | (simp [errW_none, errW_some] <;> rfl) | (simp [*, errW_none, errW_some] <;> rfl), by repeat (first | (with_reducible first | exact HB.out | apply below_alloc | apply pw_below_drewN | apply below_drew1) | exact HB.out)⟩
          ·
           replace c27 := Bool.eq_false_iff.mpr c27
           subst c27
           have H1 : (some (t107 == t109)) = some r := by rw [if_neg (show ¬ (false = true) by decide)] at H; exact H
           clear H
           have H := H1
           clear H1
           obtain rfl := Option.some.inj H
           go_wp2_with (first | ((with_reducible refine gate_callee (f := 14) rfl ?_); refine goesL_ (some 54) rfl rfl Tryd.func14 (by kernel_rfl) rfl #[.string a0, .string (⟨#[42]⟩ : ByteArray), .int .i64 (wrap64 (a2 + a3))] rfl (by (try simp only [List.map_toArray, List.map_cons, List.map_nil]); first | done | rfl | (simp only [List.length_drop, List.length_take]; rfl)) ?_; (with_reducible refine (impl_MtLimit.calls kj7 a0 (⟨#[42]⟩ : ByteArray) (wrap64 (a2 + a3)) true false _ ?side1 A15.out).mono ?_); (case side1 => exact GLU8.keep HGL.out (by repeat (first | (with_reducible first | exact HB.out | apply below_alloc | apply pw_below_drewN | apply below_drew1) | exact HB.out))); rintro e w31 ⟨rfl, hb⟩; refine ⟨_, rfl, ?_⟩; have n0_ := Aside0.mk (below_step (by repeat (first | (with_reducible first | exact HB.out | apply below_alloc | apply pw_below_drewN | apply below_drew1) | exact HB.out)) hb); clear HB; have HB := n0_; clear n0_; (try clear hb); (try clear hb2); (try clear hk); (try clear hi)) | ((with_reducible refine gate_callee (f := 14) rfl ?_); refine goesL_ (some 61) rfl rfl Tryd.func14 (by kernel_rfl) rfl #[.string a0, .string a1, .int .i64 a2] rfl (by (try simp only [List.map_toArray, List.map_cons, List.map_nil]); first | done | rfl | (simp only [List.length_drop, List.length_take]; rfl)) ?_; (with_reducible refine (impl_MtLimit.calls kj7 a0 a1 a2 t107 false _ ?side1 A16.out).mono ?_); (case side1 => exact GLU8.keep HGL.out (by repeat (first | (with_reducible first | exact HB.out | apply below_alloc | apply pw_below_drewN | apply below_drew1) | exact HB.out))); rintro e w32 ⟨rfl, hb⟩; refine ⟨_, rfl, ?_⟩; have n0_ := Aside0.mk (below_step (by repeat (first | (with_reducible first | exact HB.out | apply below_alloc | apply pw_below_drewN | apply below_drew1) | exact HB.out)) hb); clear HB; have HB := n0_; clear n0_; (try clear hb); (try clear hb2); (try clear hk); (try clear hi)) | ((with_reducible refine gate_callee (f := 14) rfl ?_); refine goesL_ (some 70) rfl rfl Tryd.func14 (by kernel_rfl) rfl #[.string a0, .string a1, .int .i64 (wrap64 (a2 + a3))] rfl (by (try simp only [List.map_toArray, List.map_cons, List.map_nil]); first | done | rfl | (simp only [List.length_drop, List.length_take]; rfl)) ?_; (with_reducible refine (impl_MtLimit.calls kj7 a0 a1 (wrap64 (a2 + a3)) t109 false _ ?side1 A17.out).mono ?_); (case side1 => exact GLU8.keep HGL.out (by repeat (first | (with_reducible first | exact HB.out | apply below_alloc | apply pw_below_drewN | apply below_drew1) | exact HB.out))); rintro e w33 ⟨rfl, hb⟩; refine ⟨_, rfl, ?_⟩; have n0_ := Aside0.mk (below_step (by repeat (first | (with_reducible first | exact HB.out | apply below_alloc | apply pw_below_drewN | apply below_drew1) | exact HB.out)) hb); clear HB; have HB := n0_; clear n0_; (try clear hb); (try clear hb2); (try clear hk); (try clear hi)))
           go_ret
           exact ⟨by first | rfl | (simp [errW_none, errW_some] <;> rfl) | (simp [*, errW_none, errW_some] <;> rfl), by repeat (first | (with_reducible first | exact HB.out | apply below_alloc | apply pw_below_drewN | apply below_drew1) | exact HB.out)⟩
       ·
        replace c18 := Bool.eq_false_iff.mpr c18
        subst c18
        have H1 : (some false) = some r := by rw [if_neg (show ¬ (false = true) by decide)] at H; exact H
        clear H
        have H := H1
        clear H1
        obtain rfl := Option.some.inj H
        go_wp2_with (first | ((with_reducible refine gate_callee (f := 14) rfl ?_); refine goesL_ (some 54) rfl rfl Tryd.func14 (by kernel_rfl) rfl #[.string a0, .string (⟨#[42]⟩ : ByteArray), .int .i64 (wrap64 (a2 + a3))] rfl (by (try simp only [List.map_toArray, List.map_cons, List.map_nil]); first | done | rfl | (simp only [List.length_drop, List.length_take]; rfl)) ?_; (with_reducible refine (impl_MtLimit.calls kj7 a0 (⟨#[42]⟩ : ByteArray) (wrap64 (a2 + a3)) false t106 _ ?side1 A15.out).mono ?_); (case side1 => exact GLU8.keep HGL.out (by repeat (first | (with_reducible first | exact HB.out | apply below_alloc | apply pw_below_drewN | apply below_drew1) | exact HB.out))); rintro e w34 ⟨rfl, hb⟩; refine ⟨_, rfl, ?_⟩; have n0_ := Aside0.mk (below_step (by repeat (first | (with_reducible first | exact HB.out | apply below_alloc | apply pw_below_drewN | apply below_drew1) | exact HB.out)) hb); clear HB; have HB := n0_; clear n0_; (try clear hb); (try clear hb2); (try clear hk); (try clear hi)) | ((with_reducible refine gate_callee (f := 14) rfl ?_); refine goesL_ (some 61) rfl rfl Tryd.func14 (by kernel_rfl) rfl #[.string a0, .string a1, .int .i64 a2] rfl (by (try simp only [List.map_toArray, List.map_cons, List.map_nil]); first | done | rfl | (simp only [List.length_drop, List.length_take]; rfl)) ?_; (with_reducible refine (impl_MtLimit.calls kj7 a0 a1 a2 t107 t108 _ ?side1 A16.out).mono ?_); (case side1 => exact GLU8.keep HGL.out (by repeat (first | (with_reducible first | exact HB.out | apply below_alloc | apply pw_below_drewN | apply below_drew1) | exact HB.out))); rintro e w35 ⟨rfl, hb⟩; refine ⟨_, rfl, ?_⟩; have n0_ := Aside0.mk (below_step (by repeat (first | (with_reducible first | exact HB.out | apply below_alloc | apply pw_below_drewN | apply below_drew1) | exact HB.out)) hb); clear HB; have HB := n0_; clear n0_; (try clear hb); (try clear hb2); (try clear hk); (try clear hi)) | ((with_reducible refine gate_callee (f := 14) rfl ?_); refine goesL_ (some 70) rfl rfl Tryd.func14 (by kernel_rfl) rfl #[.string a0, .string a1, .int .i64 (wrap64 (a2 + a3))] rfl (by (try simp only [List.map_toArray, List.map_cons, List.map_nil]); first | done | rfl | (simp only [List.length_drop, List.length_take]; rfl)) ?_; (with_reducible refine (impl_MtLimit.calls kj7 a0 a1 (wrap64 (a2 + a3)) t109 t110 _ ?side1 A17.out).mono ?_); (case side1 => exact GLU8.keep HGL.out (by repeat (first | (with_reducible first | exact HB.out | apply below_alloc | apply pw_below_drewN | apply below_drew1) | exact HB.out))); rintro e w36 ⟨rfl, hb⟩; refine ⟨_, rfl, ?_⟩; have n0_ := Aside0.mk (below_step (by repeat (first | (with_reducible first | exact HB.out | apply below_alloc | apply pw_below_drewN | apply below_drew1) | exact HB.out)) hb); clear HB; have HB := n0_; clear n0_; (try clear hb); (try clear hb2); (try clear hk); (try clear hi)))
        go_ret
        exact ⟨by first | rfl | (simp [errW_none, errW_some] <;> rfl) | (simp [*, errW_none, errW_some] <;> rfl), by repeat (first | (with_reducible first | exact HB.out | apply below_alloc | apply pw_below_drewN | apply below_drew1) | exact HB.out)⟩

/-- THE ONE PURE STATEMENT of laws_FnMtLimitMore: yours. -/
def laws_FnMtLimitMore.Pure : Prop := ∀ (a0 : ByteArray) (a1 : ByteArray) (a2 : Int) (a3 : Int), a0.size ≤ 140737488351232 → a1.size ≤ 140737488351232 → (Lit.int .i64 a2).wf = true → (Lit.int .i64 a3).wf = true → ∃ k, laws_FnMtLimitMore.f k a0 a1 a2 a3 = some true
theorem laws_FnMtLimitMore.walk (P : laws_FnMtLimitMore.Pure) (a0 : ByteArray) (a1 : ByteArray) (a2 : Int) (a3 : Int) (w : World) (hG : GLU8 w) (w0 : a0.size ≤ 140737488351232) (w1 : a1.size ≤ 140737488351232) (w2 : (Lit.int .i64 a2).wf = true) (w3 : (Lit.int .i64 a3).wf = true) :
  Calls Tryd.prog 6 #[.string a0, .string a1, .int .i64 a2, .int .i64 a3] w fun e w' => e = .returned (.bool true) ∧ Below w.heap.size w w' := by
 obtain ⟨k, h⟩ := P a0 a1 a2 a3 w0 w1 w2 w3
 refine (laws_FnMtLimitMore.calls k a0 a1 a2 a3 true w hG h).mono ?_
 rintro e w' ⟨rfl, hd⟩
 exact ⟨rfl, hd⟩

end Go.Proofs.YtifcmhekpbfboaaDoor.MFnMtLimitMore
