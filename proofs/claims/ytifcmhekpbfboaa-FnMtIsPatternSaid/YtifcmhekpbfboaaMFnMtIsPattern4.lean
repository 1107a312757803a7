/- What Go functions compute, as functions of numbers and lists, and the walks that show it. No condition. Written by a program (wip/tools/mprint.py) over the kit's print. -/
import Derived.Test.YtifcmhekpbfboaaMFnMtIsPattern0
import Derived.Test.YtifcmhekpbfboaaMFnMtIsPattern1
import Derived.Test.YtifcmhekpbfboaaMFnMtIsPattern2
import Derived.Test.YtifcmhekpbfboaaMFnMtIsPattern3
namespace Go.Proofs.Ytifcmhekpbfboaa.MFnMtIsPattern
open Go.RowKit Go.Proofs.YtifcmhekpbfboaaW.PrintWords Go.Proofs.YtifcmhekpbfboaaW.PrintLast Go.Proofs.YtifcmhekpbfboaaW.PrintMore
attribute [local go_sem] max2_int min2_int max_two min_two max_three min_three max_four min_four   -- for this text's walks alone
set_option linter.unusedVariables false
set_option linter.unusedSimpArgs false

/-! ### spec_Matches: function 26 -/
def spec_Matches.f (k : Nat) (a0 : ByteArray) (a1 : ByteArray) : Option (Bool × Bool) := (spec_Characters.f k a0).bind fun bt146 => ((spec_Globs.f k a1).bind fun bt150 => (if bt146.2 = true then (if bt150.2 = true then ((spec_Fits.f k bt146.1 bt150.1).bind fun t154 => (some (t154, true))) else (some (false, false))) else (some (false, false))))
theorem spec_Matches.mono : ∀ a0 a1 k, LeO (spec_Matches.f k a0 a1) (spec_Matches.f (k + 1) a0 a1) := by
 intro a0 a1 k
 unfold spec_Matches.f
 repeat' first
   | (with_reducible exact spec_Characters.mono _ _)
   | (with_reducible exact spec_Fits.mono _ _ _)
   | (with_reducible exact spec_Globs.mono _ _)
   | (with_reducible exact LeO.refl _)
   | (with_reducible exact LeO.none _)
   | (with_reducible refine LeO.ite ?_ ?_)
   | (with_reducible refine LeO.bind ?_ (fun _ => ?_))
   | exact spec_Characters.mono _ _
   | exact spec_Fits.mono _ _ _
   | exact spec_Globs.mono _ _
   | exact LeO.none _
   | refine LeO.ite ?_ ?_
   | refine LeO.bind ?_ (fun _ => ?_)
set_option maxHeartbeats 8000000 in
set_option maxRecDepth 100000 in
theorem spec_Matches.calls (k : Nat) (a0 : ByteArray) (a1 : ByteArray) (r1 : Bool) (r2 : Bool) (w : World) (h : spec_Matches.f k a0 a1 = some (r1, r2)) :
  Calls Try.prog 26 #[.string a0, .string a1] w fun e w' => e = .returned (.tuple #[.bool r1, .bool r2]) ∧ Below w.heap.size w w' := by
 have HB := Aside0.mk (Below.refl w.heap.size w)
 have H : ((spec_Characters.f k a0).bind fun bt146 => ((spec_Globs.f k a1).bind fun bt150 => (if bt146.2 = true then (if bt150.2 = true then ((spec_Fits.f k bt146.1 bt150.1).bind fun t154 => (some (t154, true))) else (some (false, false))) else (some (false, false))))) = some (r1, r2) := h
 clear h
 replace H := Option.bind_eq_some_iff.mp H
 obtain ⟨⟨t146, t147⟩, A30, H⟩ := H
 replace H : ((spec_Globs.f k a1).bind fun bt150 => (if t147 = true then (if bt150.2 = true then ((spec_Fits.f k t146 bt150.1).bind fun t154 => (some (t154, true))) else (some (false, false))) else (some (false, false)))) = some (r1, r2) := H
 have A3 := Aside0.mk A30
 clear A30
 replace H := Option.bind_eq_some_iff.mp H
 obtain ⟨⟨t150, t151⟩, A40, H⟩ := H
 replace H : (if t147 = true then (if t151 = true then ((spec_Fits.f k t146 t150).bind fun t154 => (some (t154, true))) else (some (false, false))) else (some (false, false))) = some (r1, r2) := H
 have A4 := Aside0.mk A40
 clear A40
 by_cases c5 : t147 = true
 ·
  subst c5
  have H1 : (if t151 = true then ((spec_Fits.f k t146 t150).bind fun t154 => (some (t154, true))) else (some (false, false))) = some (r1, r2) := by rw [if_pos rfl] at H; exact H
  clear H
  have H := H1
  clear H1
  by_cases c6 : t151 = true
  ·
   subst c6
   have H1 : ((spec_Fits.f k t146 t150).bind fun t154 => (some (t154, true))) = some (r1, r2) := by rw [if_pos rfl] at H; exact H
   clear H
   have H := H1
   clear H1
   replace H := Option.bind_eq_some_iff.mp H
   obtain ⟨t154, A70, H⟩ := H
   replace H : (some (t154, true)) = some (r1, r2) := H
   have A7 := Aside0.mk A70
   clear A70
   simp only [Option.some.injEq, Prod.mk.injEq] at H
   obtain ⟨rfl, rfl⟩ := H
   go_enter Try.func26, Try.ntmps26
   go_wp2_with (first | ((with_reducible refine gate_callee (f := 39) rfl ?_); refine goesL_ (some 12) rfl rfl Try.func39 (by kernel_rfl) rfl #[.string a0] rfl (by (try simp only [List.map_toArray, List.map_cons, List.map_nil]); first | done | rfl | (simp only [List.length_drop, List.length_take]; rfl)) ?_; (with_reducible refine (spec_Characters.calls k a0 t146 true _ A3.out).mono ?_); rintro e w8 ⟨v148, rfl, ho0, hb⟩; refine ⟨_, rfl, ?_⟩; have n0_ := Aside0.mk (Kd.R_lower ho0 (below_size (by repeat (first | (with_reducible first | exact HB.out | apply below_alloc | apply pw_below_drewN | apply below_drew1) | exact HB.out)))); have n1_ := Aside0.mk (below_step (by repeat (first | (with_reducible first | exact HB.out | apply below_alloc | apply pw_below_drewN | apply below_drew1) | exact HB.out)) hb); clear HB; have HO149 := n0_; have HB := n1_; clear n0_ n1_; (try clear hb); (try clear hb2); (try clear hk); (try clear hi); (try clear ho0)) | ((with_reducible refine gate_callee (f := 11) rfl ?_); refine goesL_ (some 17) rfl rfl Try.func11 (by kernel_rfl) rfl #[.string a1] rfl (by (try simp only [List.map_toArray, List.map_cons, List.map_nil]); first | done | rfl | (simp only [List.length_drop, List.length_take]; rfl)) ?_; (with_reducible refine (spec_Globs.calls k a1 t150 true _ A4.out).mono ?_); rintro e w9 ⟨v152, rfl, ho0, hb⟩; refine ⟨_, rfl, ?_⟩; have n0_ := Aside0.mk (Kd.R_below (by (with_reducible repeat (first | apply Kd.R_alloc | apply Kd.R_drewN | apply Kd.R_drew)); exact HO149.out) hb); have n1_ := Aside0.mk (Kd.R_lower ho0 (below_size (by repeat (first | (with_reducible first | exact HB.out | apply below_alloc | apply pw_below_drewN | apply below_drew1) | exact HB.out)))); have n2_ := Aside0.mk (below_step (by repeat (first | (with_reducible first | exact HB.out | apply below_alloc | apply pw_below_drewN | apply below_drew1) | exact HB.out)) hb); clear HO149; clear HB; have HO149 := n0_; have HO153 := n1_; have HB := n2_; clear n0_ n1_ n2_; (try clear hb); (try clear hb2); (try clear hk); (try clear hi); (try clear ho0); obtain ⟨Ao10, co10, eo10⟩ := Kd.R_slice HO149.out; subst eo10; obtain ⟨Ao11, co11, eo11⟩ := Kd.R_slice HO153.out; subst eo11) | ((with_reducible refine gate_callee (f := 40) rfl ?_); refine goesL_ (some 28) rfl rfl Try.func40 (by kernel_rfl) rfl #[.slice Ao10 t146.length co10, .slice Ao11 t150.length co11] rfl (by (try simp only [List.map_toArray, List.map_cons, List.map_nil]); first | done | rfl | (simp only [List.length_drop, List.length_take]; rfl)) ?_; (with_reducible refine (spec_Fits.calls k _ _ t146 _ _ t150 t154 _ ?side1 ?side2 ?side3 ?side4 A7.out).mono ?_); (case side1 => repeat (first | exact (Kd.R_reads' HO149.out).2.2 | (with_reducible refine Kd.C_alloc ?_ _) | (with_reducible refine Kd.C_drewN ?_ _) | (with_reducible refine Kd.C_drew ?_))); (case side2 => exact (Kd.R_reads' HO149.out).2.1); (case side3 => repeat (first | exact (Kd.R_reads' HO153.out).2.2 | (with_reducible refine Kd.C_alloc ?_ _) | (with_reducible refine Kd.C_drewN ?_ _) | (with_reducible refine Kd.C_drew ?_))); (case side4 => exact (Kd.R_reads' HO153.out).2.1); rintro e w12 ⟨rfl, hb⟩; refine ⟨_, rfl, ?_⟩; have n0_ := Aside0.mk (Kd.R_below (by (with_reducible repeat (first | apply Kd.R_alloc | apply Kd.R_drewN | apply Kd.R_drew)); exact HO149.out) hb); have n1_ := Aside0.mk (Kd.R_below (by (with_reducible repeat (first | apply Kd.R_alloc | apply Kd.R_drewN | apply Kd.R_drew)); exact HO153.out) hb); have n2_ := Aside0.mk (below_step (by repeat (first | (with_reducible first | exact HB.out | apply below_alloc | apply pw_below_drewN | apply below_drew1) | exact HB.out)) hb); clear HO149; clear HO153; clear HB; have HO149 := n0_; have HO153 := n1_; have HB := n2_; clear n0_ n1_ n2_; (try clear hb); (try clear hb2); (try clear hk); (try clear hi)))
   go_ret2
   exact ⟨by first | rfl | (simp [errW_none, errW_some] <;> rfl) | (simp [*, errW_none, errW_some] <;> rfl), by repeat (first | (with_reducible first | exact HB.out | apply below_alloc | apply pw_below_drewN | apply below_drew1) | exact HB.out)⟩
  ·
   replace c6 := Bool.eq_false_iff.mpr c6
   subst c6
   have H1 : (some (false, false)) = some (r1, r2) := by rw [if_neg (show ¬ (false = true) by decide)] at H; exact H
   clear H
   have H := H1
   clear H1
   simp only [Option.some.injEq, Prod.mk.injEq] at H
   obtain ⟨rfl, rfl⟩ := H
   go_enter Try.func26, Try.ntmps26
   go_wp2_with (first | ((with_reducible refine gate_callee (f := 39) rfl ?_); refine goesL_ (some 12) rfl rfl Try.func39 (by kernel_rfl) rfl #[.string a0] rfl (by (try simp only [List.map_toArray, List.map_cons, List.map_nil]); first | done | rfl | (simp only [List.length_drop, List.length_take]; rfl)) ?_; (with_reducible refine (spec_Characters.calls k a0 t146 true _ A3.out).mono ?_); rintro e w13 ⟨v148, rfl, ho0, hb⟩; refine ⟨_, rfl, ?_⟩; have n0_ := Aside0.mk (Kd.R_lower ho0 (below_size (by repeat (first | (with_reducible first | exact HB.out | apply below_alloc | apply pw_below_drewN | apply below_drew1) | exact HB.out)))); have n1_ := Aside0.mk (below_step (by repeat (first | (with_reducible first | exact HB.out | apply below_alloc | apply pw_below_drewN | apply below_drew1) | exact HB.out)) hb); clear HB; have HO149 := n0_; have HB := n1_; clear n0_ n1_; (try clear hb); (try clear hb2); (try clear hk); (try clear hi); (try clear ho0)) | ((with_reducible refine gate_callee (f := 11) rfl ?_); refine goesL_ (some 17) rfl rfl Try.func11 (by kernel_rfl) rfl #[.string a1] rfl (by (try simp only [List.map_toArray, List.map_cons, List.map_nil]); first | done | rfl | (simp only [List.length_drop, List.length_take]; rfl)) ?_; (with_reducible refine (spec_Globs.calls k a1 t150 false _ A4.out).mono ?_); rintro e w14 ⟨v152, rfl, ho0, hb⟩; refine ⟨_, rfl, ?_⟩; have n0_ := Aside0.mk (Kd.R_below (by (with_reducible repeat (first | apply Kd.R_alloc | apply Kd.R_drewN | apply Kd.R_drew)); exact HO149.out) hb); have n1_ := Aside0.mk (Kd.R_lower ho0 (below_size (by repeat (first | (with_reducible first | exact HB.out | apply below_alloc | apply pw_below_drewN | apply below_drew1) | exact HB.out)))); have n2_ := Aside0.mk (below_step (by repeat (first | (with_reducible first | exact HB.out | apply below_alloc | apply pw_below_drewN | apply below_drew1) | exact HB.out)) hb); clear HO149; clear HB; have HO149 := n0_; have HO153 := n1_; have HB := n2_; clear n0_ n1_ n2_; (try clear hb); (try clear hb2); (try clear hk); (try clear hi); (try clear ho0)))
   go_ret2
   exact ⟨by first | rfl | (simp [errW_none, errW_some] <;> rfl) | (simp [*, errW_none, errW_some] <;> rfl), by repeat (first | (with_reducible first | exact HB.out | apply below_alloc | apply pw_below_drewN | apply below_drew1) | exact HB.out)⟩
 ·
  replace c5 := Bool.eq_false_iff.mpr c5
  subst c5
  have H1 : (some (false, false)) = some (r1, r2) := by rw [if_neg (show ¬ (false = true) by decide)] at H; exact H
  clear H
  have H := H1
  clear H1
  simp only [Option.some.injEq, Prod.mk.injEq] at H
  obtain ⟨rfl, rfl⟩ := H
  go_enter Try.func26, Try.ntmps26
  go_wp2_with (first | ((with_reducible refine gate_callee (f := 39) rfl ?_); refine goesL_ (some 12) rfl rfl Try.func39 (by kernel_rfl) rfl #[.string a0] rfl (by (try simp only [List.map_toArray, List.map_cons, List.map_nil]); first | done | rfl | (simp only [List.length_drop, List.length_take]; rfl)) ?_; (with_reducible refine (spec_Characters.calls k a0 t146 false _ A3.out).mono ?_); rintro e w15 ⟨v148, rfl, ho0, hb⟩; refine ⟨_, rfl, ?_⟩; have n0_ := Aside0.mk (Kd.R_lower ho0 (below_size (by repeat (first | (with_reducible first | exact HB.out | apply below_alloc | apply pw_below_drewN | apply below_drew1) | exact HB.out)))); have n1_ := Aside0.mk (below_step (by repeat (first | (with_reducible first | exact HB.out | apply below_alloc | apply pw_below_drewN | apply below_drew1) | exact HB.out)) hb); clear HB; have HO149 := n0_; have HB := n1_; clear n0_ n1_; (try clear hb); (try clear hb2); (try clear hk); (try clear hi); (try clear ho0)) | ((with_reducible refine gate_callee (f := 11) rfl ?_); refine goesL_ (some 17) rfl rfl Try.func11 (by kernel_rfl) rfl #[.string a1] rfl (by (try simp only [List.map_toArray, List.map_cons, List.map_nil]); first | done | rfl | (simp only [List.length_drop, List.length_take]; rfl)) ?_; (with_reducible refine (spec_Globs.calls k a1 t150 t151 _ A4.out).mono ?_); rintro e w16 ⟨v152, rfl, ho0, hb⟩; refine ⟨_, rfl, ?_⟩; have n0_ := Aside0.mk (Kd.R_below (by (with_reducible repeat (first | apply Kd.R_alloc | apply Kd.R_drewN | apply Kd.R_drew)); exact HO149.out) hb); have n1_ := Aside0.mk (Kd.R_lower ho0 (below_size (by repeat (first | (with_reducible first | exact HB.out | apply below_alloc | apply pw_below_drewN | apply below_drew1) | exact HB.out)))); have n2_ := Aside0.mk (below_step (by repeat (first | (with_reducible first | exact HB.out | apply below_alloc | apply pw_below_drewN | apply below_drew1) | exact HB.out)) hb); clear HO149; clear HB; have HO149 := n0_; have HO153 := n1_; have HB := n2_; clear n0_ n1_ n2_; (try clear hb); (try clear hb2); (try clear hk); (try clear hi); (try clear ho0)))
  go_ret2
  exact ⟨by first | rfl | (simp [errW_none, errW_some] <;> rfl) | (simp [*, errW_none, errW_some] <;> rfl), by repeat (first | (with_reducible first | exact HB.out | apply below_alloc | apply pw_below_drewN | apply below_drew1) | exact HB.out)⟩

/-! ### laws_mtTold: function 10 -/
def laws_mtTold.f (k : Nat) (a0 : ByteArray) (a1 : ByteArray) : Option (Bool × Bool) := if (a0.size : Int) > 4096 then (some (false, false)) else (if (a1.size : Int) > 4096 then (some (false, false)) else ((spec_Matches.f k a0 a1).bind fun bt155 => (some (bt155.1, bt155.2))))
theorem laws_mtTold.mono : ∀ a0 a1 k, LeO (laws_mtTold.f k a0 a1) (laws_mtTold.f (k + 1) a0 a1) := by
 intro a0 a1 k
 unfold laws_mtTold.f
 repeat' first
   | (with_reducible exact spec_Matches.mono _ _ _)
   | (with_reducible exact LeO.refl _)
   | (with_reducible exact LeO.none _)
   | (with_reducible refine LeO.ite ?_ ?_)
   | (with_reducible refine LeO.bind ?_ (fun _ => ?_))
   | exact spec_Matches.mono _ _ _
   | exact LeO.none _
   | refine LeO.ite ?_ ?_
   | refine LeO.bind ?_ (fun _ => ?_)
set_option maxHeartbeats 8000000 in
set_option maxRecDepth 100000 in
theorem laws_mtTold.calls (k : Nat) (a0 : ByteArray) (a1 : ByteArray) (r1 : Bool) (r2 : Bool) (w : World) (h : laws_mtTold.f k a0 a1 = some (r1, r2)) :
  Calls Try.prog 10 #[.string a0, .string a1] w fun e w' => e = .returned (.tuple #[.bool r1, .bool r2]) ∧ Below w.heap.size w w' := by
 have HB := Aside0.mk (Below.refl w.heap.size w)
 have H : (if (a0.size : Int) > 4096 then (some (false, false)) else (if (a1.size : Int) > 4096 then (some (false, false)) else ((spec_Matches.f k a0 a1).bind fun bt155 => (some (bt155.1, bt155.2))))) = some (r1, r2) := h
 clear h
 by_cases c3 : (a0.size : Int) > 4096
 ·
  rw [if_pos c3] at H
  have c3b0 : decide (4096 < (a0.size : Int)) = true := decide_eq_true c3
  have c3b1 : decide (4096 < a0.size) = true := decide_eq_true (by omega)
  clear c3
  simp only [Option.some.injEq, Prod.mk.injEq] at H
  obtain ⟨rfl, rfl⟩ := H
  go_enter Try.func10, Try.ntmps10
  go_wp2
  go_ret2
  exact ⟨by first | rfl | (simp [errW_none, errW_some] <;> rfl) | (simp [*, errW_none, errW_some] <;> rfl), by repeat (first | (with_reducible first | exact HB.out | apply below_alloc | apply pw_below_drewN | apply below_drew1) | exact HB.out)⟩
 ·
  rw [if_neg c3] at H
  have c3b0 : decide (4096 < (a0.size : Int)) = false := decide_eq_false c3
  have c3b1 : decide (4096 < a0.size) = false := decide_eq_false (by omega)
  clear c3
  by_cases c4 : (a1.size : Int) > 4096
  ·
   rw [if_pos c4] at H
   have c4b0 : decide (4096 < (a1.size : Int)) = true := decide_eq_true c4
   have c4b1 : decide (4096 < a1.size) = true := decide_eq_true (by omega)
   clear c4
   simp only [Option.some.injEq, Prod.mk.injEq] at H
   obtain ⟨rfl, rfl⟩ := H
   go_enter Try.func10, Try.ntmps10
   go_wp2
   go_ret2
   exact ⟨by first | rfl | (simp [errW_none, errW_some] <;> rfl) | (simp [*, errW_none, errW_some] <;> rfl), by repeat (first | (with_reducible first | exact HB.out | apply below_alloc | apply pw_below_drewN | apply below_drew1) | exact HB.out)⟩
  ·
   rw [if_neg c4] at H
   have c4b0 : decide (4096 < (a1.size : Int)) = false := decide_eq_false c4
   have c4b1 : decide (4096 < a1.size) = false := decide_eq_false (by omega)
   clear c4
   replace H := Option.bind_eq_some_iff.mp H
   obtain ⟨⟨t155, t156⟩, A50, H⟩ := H
   replace H : (some (t155, t156)) = some (r1, r2) := H
   have A5 := Aside0.mk A50
   clear A50
   simp only [Option.some.injEq, Prod.mk.injEq] at H
   obtain ⟨rfl, rfl⟩ := H
   go_enter Try.func10, Try.ntmps10
   go_wp2_with (first | ((with_reducible refine gate_callee (f := 26) rfl ?_); refine goesL_ (some 16) rfl rfl Try.func26 (by kernel_rfl) rfl #[.string a0, .string a1] rfl (by (try simp only [List.map_toArray, List.map_cons, List.map_nil]); first | done | rfl | (simp only [List.length_drop, List.length_take]; rfl)) ?_; (with_reducible refine (spec_Matches.calls k a0 a1 t155 t156 _ A5.out).mono ?_); rintro e w6 ⟨rfl, hb⟩; refine ⟨_, rfl, ?_⟩; have n0_ := Aside0.mk (below_step (by repeat (first | (with_reducible first | exact HB.out | apply below_alloc | apply pw_below_drewN | apply below_drew1) | exact HB.out)) hb); clear HB; have HB := n0_; clear n0_; (try clear hb); (try clear hb2); (try clear hk); (try clear hi)))
   go_ret2
   exact ⟨by first | rfl | (simp [errW_none, errW_some] <;> rfl) | (simp [*, errW_none, errW_some] <;> rfl), by repeat (first | (with_reducible first | exact HB.out | apply below_alloc | apply pw_below_drewN | apply below_drew1) | exact HB.out)⟩

/-! ### match_IsPattern: function 28 -/
def match_IsPattern.l0 : Nat → ByteArray → Int → Option (Bool)
 | 0, _, _ => none
 | k + 1, x0, x3 => if x3 < (x0.size : Int) then (if 0 ≤ x3 then (if (bt x0 x3) = 42 then (some true) else (if (bt x0 x3) = 63 then (some true) else (match_IsPattern.l0 k x0 (wrap64 (x3 + 1))))) else (none)) else (some false)
def match_IsPattern.f (k : Nat) (a0 : ByteArray) : Option (Bool) := match_IsPattern.l0 k a0 0
theorem match_IsPattern.mono_l : ∀ k, (∀ y0 y1, LeO (match_IsPattern.l0 k y0 y1) (match_IsPattern.l0 (k + 1) y0 y1))
 | 0 => fun _ _ r h => by simp [match_IsPattern.l0] at h
 | k + 1 => by
  have ih0 := match_IsPattern.mono_l k
  ·
   intro y0 y1
   unfold match_IsPattern.l0
   repeat' first
   | (with_reducible exact ih0 _ _)
   | (with_reducible exact LeO.refl _)
   | (with_reducible exact LeO.none _)
   | (with_reducible refine LeO.ite ?_ ?_)
   | (with_reducible refine LeO.bind ?_ (fun _ => ?_))
   | exact ih0 _ _
   | exact LeO.none _
   | refine LeO.ite ?_ ?_
   | refine LeO.bind ?_ (fun _ => ?_)
theorem match_IsPattern.mono : ∀ a0 k, LeO (match_IsPattern.f k a0) (match_IsPattern.f (k + 1) a0) := by
 intro a0 k
 have ih0 := match_IsPattern.mono_l k
 unfold match_IsPattern.f
 repeat' first
   | (with_reducible exact ih0 _ _)
   | (with_reducible exact LeO.refl _)
   | (with_reducible exact LeO.none _)
   | (with_reducible refine LeO.ite ?_ ?_)
   | (with_reducible refine LeO.bind ?_ (fun _ => ?_))
   | exact ih0 _ _
   | exact LeO.none _
   | refine LeO.ite ?_ ?_
   | refine LeO.bind ?_ (fun _ => ?_)
set_option maxHeartbeats 8000000 in
set_option maxRecDepth 100000 in
theorem match_IsPattern.calls (k : Nat) (a0 : ByteArray) (r : Bool) (w : World) (h : match_IsPattern.f k a0 = some r) :
  Calls Try.prog 28 #[.string a0] w fun e w' => e = .returned (.bool r) ∧ Drawn0 w w' := by
 have H : (match_IsPattern.l0 k a0 0) = some r := h
 clear h
 have H' := Aside0.mk H
 clear H
 go_enter Try.func28, Try.ntmps28
 go_wp2
 go_loopg [3] k (fun kq v3 w' => ∃ (x3_1 : Int), v3 = .int .i64 x3_1 ∧ Aside0 (match_IsPattern.l0 kq a0 x3_1 = some r) ∧ Aside0 (kq ≤ k) ∧ Drawn0 w w')
 case atStart => exact ⟨(0), (by first | rfl | (simp; done) | (simp [*]; done) | (simp; rw [Bool.eq_iff_iff]; simp; done)), H', ⟨Nat.le_refl _⟩, by repeat (first | exact Drawn0.refl _ | apply Drawn0.step)⟩
 case round =>
  clear H'
  obtain ⟨x3_1, rfl, HA, HK1, ⟨m1, rfl⟩⟩ := hrel
  cases gk with
  | zero => exact absurd HA.out (by simp [match_IsPattern.l0])
  | succ k1 =>
   have H := HA.out
   clear HA
   simp only [match_IsPattern.l0] at H
   by_cases c2 : x3_1 < (a0.size : Int)
   ·
    rw [if_pos c2] at H
    have c2b0 : decide (x3_1 < (a0.size : Int)) = true := decide_eq_true c2
    clear c2
    by_cases c3 : 0 ≤ x3_1
    ·
     rw [if_pos c3] at H
     have c3b0 : decide (0 ≤ x3_1) = true := decide_eq_true c3
     clear c3
     by_cases c5 : (bt a0 x3_1) = 42
     ·
      rw [if_pos c5] at H
      have c5b0 : ((bt a0 x3_1) == 42) = true := beq_iff_eq.mpr c5
      have c5b1 : ((bt a0 x3_1) != 42) = false := bne_eq_false_iff_eq.mpr c5
      clear c5
      obtain rfl := Option.some.inj H
      have p4 : 0 ≤ (x3_1 : Int) := of_decide_eq_true (by first | (with_reducible assumption) | assumption)
      have q4 : x3_1 < (a0.size : Int) := of_decide_eq_true (by first | (with_reducible assumption) | assumption)
      have hx4 := bt_at a0 x3_1
      replace p4 := eq_true p4
      replace q4 := eq_true q4
      go_wp2
      go_ret
      exact ⟨by first | rfl | (simp; done) | (simp [*]; done) | (simp; rw [Bool.eq_iff_iff]; simp; done), by repeat (first | exact Drawn0.refl _ | apply Drawn0.step)⟩
     ·
      rw [if_neg c5] at H
      have c5b0 : ((bt a0 x3_1) == 42) = false := beq_eq_false_iff_ne.mpr c5
      have c5b1 : ((bt a0 x3_1) != 42) = true := bne_iff_ne.mpr c5
      by_cases c7 : (bt a0 x3_1) = 63
      ·
       rw [if_pos c7] at H
       have c7b0 : ((bt a0 x3_1) == 63) = true := beq_iff_eq.mpr c7
       have c7b1 : ((bt a0 x3_1) != 63) = false := bne_eq_false_iff_eq.mpr c7
       clear c7
       obtain rfl := Option.some.inj H
       have p4 : 0 ≤ (x3_1 : Int) := of_decide_eq_true (by first | (with_reducible assumption) | assumption)
       have q4 : x3_1 < (a0.size : Int) := of_decide_eq_true (by first | (with_reducible assumption) | assumption)
       have hx4 := bt_at a0 x3_1
       replace p4 := eq_true p4
       replace q4 := eq_true q4
       have p6 : 0 ≤ (x3_1 : Int) := of_decide_eq_true (by first | (with_reducible assumption) | assumption)
       have q6 : x3_1 < (a0.size : Int) := of_decide_eq_true (by first | (with_reducible assumption) | assumption)
       have hx6 := bt_at a0 x3_1
       replace p6 := eq_true p6
       replace q6 := eq_true q6
       go_wp2
       go_ret
       exact ⟨by first | rfl | (simp; done) | (simp [*]; done) | (simp; rw [Bool.eq_iff_iff]; simp; done), by repeat (first | exact Drawn0.refl _ | apply Drawn0.step)⟩
      ·
       rw [if_neg c7] at H
       have c7b0 : ((bt a0 x3_1) == 63) = false := beq_eq_false_iff_ne.mpr c7
       have c7b1 : ((bt a0 x3_1) != 63) = true := bne_iff_ne.mpr c7
       have H' := Aside0.mk H
       clear H
       have p4 : 0 ≤ (x3_1 : Int) := of_decide_eq_true (by first | (with_reducible assumption) | assumption)
       have q4 : x3_1 < (a0.size : Int) := of_decide_eq_true (by first | (with_reducible assumption) | assumption)
       have hx4 := bt_at a0 x3_1
       replace p4 := eq_true p4
       replace q4 := eq_true q4
       have p6 : 0 ≤ (x3_1 : Int) := of_decide_eq_true (by first | (with_reducible assumption) | assumption)
       have q6 : x3_1 < (a0.size : Int) := of_decide_eq_true (by first | (with_reducible assumption) | assumption)
       have hx6 := bt_at a0 x3_1
       replace p6 := eq_true p6
       replace q6 := eq_true q6
       go_wp2
       go_roundg k1
       case measure => have := HK1.out; omega
       case rel => exact ⟨(wrap64 (x3_1 + 1)), (by first | rfl | (simp; done) | (simp [*]; done) | (simp; rw [Bool.eq_iff_iff]; simp; done)), H', ⟨by have := HK1.out; omega⟩, by repeat (first | exact Drawn0.refl _ | apply Drawn0.step)⟩
    ·
     rw [if_neg c3] at H
     exact absurd H (by simp)
   ·
    rw [if_neg c2] at H
    have c2b0 : decide (x3_1 < (a0.size : Int)) = false := decide_eq_false c2
    clear c2
    obtain rfl := Option.some.inj H
    go_wp2
    go_ret
    exact ⟨by first | rfl | (simp; done) | (simp [*]; done) | (simp; rw [Bool.eq_iff_iff]; simp; done), by repeat (first | exact Drawn0.refl _ | apply Drawn0.step)⟩

/-! ### impl_MtIsPattern: function 12 -/
def impl_MtIsPattern.f (k : Nat) (a0 : ByteArray) : Option (Bool) := (match_IsPattern.f k a0).bind fun t157 => (some t157)
theorem impl_MtIsPattern.mono : ∀ a0 k, LeO (impl_MtIsPattern.f k a0) (impl_MtIsPattern.f (k + 1) a0) := by
 intro a0 k
 unfold impl_MtIsPattern.f
 repeat' first
   | (with_reducible exact match_IsPattern.mono _ _)
   | (with_reducible exact LeO.refl _)
   | (with_reducible exact LeO.none _)
   | (with_reducible refine LeO.ite ?_ ?_)
   | (with_reducible refine LeO.bind ?_ (fun _ => ?_))
   | exact match_IsPattern.mono _ _
   | exact LeO.none _
   | refine LeO.ite ?_ ?_
   | refine LeO.bind ?_ (fun _ => ?_)
set_option maxHeartbeats 8000000 in
set_option maxRecDepth 100000 in
theorem impl_MtIsPattern.calls (k : Nat) (a0 : ByteArray) (r : Bool) (w : World) (h : impl_MtIsPattern.f k a0 = some r) :
  Calls Try.prog 12 #[.string a0] w fun e w' => e = .returned (.bool r) ∧ Drawn0 w w' := by
 have H : ((match_IsPattern.f k a0).bind fun t157 => (some t157)) = some r := h
 clear h
 replace H := Option.bind_eq_some_iff.mp H
 obtain ⟨t157, A20, H⟩ := H
 replace H : (some t157) = some r := H
 have A2 := Aside0.mk A20
 clear A20
 obtain rfl := Option.some.inj H
 go_enter Try.func12, Try.ntmps12
 go_wp2_with (first | ((with_reducible refine gate_callee (f := 28) rfl ?_); refine goesL_ (some 4) rfl rfl Try.func28 (by kernel_rfl) rfl #[.string a0] rfl (by (try simp only [List.map_toArray, List.map_cons, List.map_nil]); first | done | rfl | (simp only [List.length_drop, List.length_take]; rfl)) ?_; (with_reducible refine (match_IsPattern.calls k a0 t157 _ A2.out).mono ?_); rintro e w' ⟨rfl, ⟨nd, rfl⟩⟩; refine ⟨_, rfl, ?_⟩))
 go_ret
 exact ⟨by first | rfl | (simp; done) | (simp [*]; done) | (simp; rw [Bool.eq_iff_iff]; simp; done), by repeat (first | exact Drawn0.refl _ | apply Drawn0.step)⟩

/-! ### laws_FnMtIsPattern: function 3 -/
mutual
def laws_FnMtIsPattern.l0 : Nat → ByteArray → Bool → Bool → List (S28) → Int → Int → Option (Bool)
 | 0, _, _, _, _, _, _ => none
 | k + 1, x0, x7, x8, x27, x28, x29 => if x29 < x28 then (if 0 ≤ x29 then (if x29 < (x27.length : Int) then (if x7 = true then (laws_FnMtIsPattern.l0 k x0 true x8 x27 x28 (wrap64 (x29 + 1))) else (if (rd_T28 x27 x29).f0 = true then (laws_FnMtIsPattern.l0 k x0 true x8 x27 x28 (wrap64 (x29 + 1))) else (laws_FnMtIsPattern.l0 k x0 ((rd_T28 x27 x29).f1) x8 x27 x28 (wrap64 (x29 + 1))))) else (none)) else (none)) else (laws_FnMtIsPattern.l1 k x0 x7 x8 0)
def laws_FnMtIsPattern.l1 : Nat → ByteArray → Bool → Bool → Int → Option (Bool)
 | 0, _, _, _, _ => none
 | k + 1, x0, x7, x8, x11 => if x11 < (x0.size : Int) then (if x8 = true then (laws_FnMtIsPattern.l1 k x0 x7 true (wrap64 (x11 + 1))) else (if 0 ≤ x11 then (if (bt x0 x11) = 42 then (laws_FnMtIsPattern.l1 k x0 x7 true (wrap64 (x11 + 1))) else (laws_FnMtIsPattern.l1 k x0 x7 ((bt x0 x11) == 63) (wrap64 (x11 + 1)))) else (none))) else (if x7 = true then ((impl_MtIsPattern.f k x0).bind fun t166 => (some t166)) else (if x8 = true then (some true) else ((impl_MtIsPattern.f k x0).bind fun t167 => (some (!t167)))))
end
def laws_FnMtIsPattern.f (k : Nat) (a0 : ByteArray) : Option (Bool) := if (a0.size : Int) > 2147483647 then (some true) else ((laws_mtTold.f k (⟨#[]⟩ : ByteArray) a0).bind fun bt158 => ((spec_Globs.f k a0).bind fun bt160 => (if bt158.2 = true then (laws_FnMtIsPattern.l0 k a0 false false bt160.1 (bt160.1.length : Int) 0) else (some true))))
theorem laws_FnMtIsPattern.mono_l : ∀ k, (∀ y0 y1 y2 y3 y4 y5, LeO (laws_FnMtIsPattern.l0 k y0 y1 y2 y3 y4 y5) (laws_FnMtIsPattern.l0 (k + 1) y0 y1 y2 y3 y4 y5)) ∧ (∀ y0 y1 y2 y3, LeO (laws_FnMtIsPattern.l1 k y0 y1 y2 y3) (laws_FnMtIsPattern.l1 (k + 1) y0 y1 y2 y3))
 | 0 => ⟨fun _ _ _ _ _ _ r h => by simp [laws_FnMtIsPattern.l0] at h, fun _ _ _ _ r h => by simp [laws_FnMtIsPattern.l1] at h⟩
 | k + 1 => by
  obtain ⟨ih0, ih1⟩ := laws_FnMtIsPattern.mono_l k
  refine ⟨?_, ?_⟩
  ·
   intro y0 y1 y2 y3 y4 y5
   unfold laws_FnMtIsPattern.l0
   repeat' first
   | (with_reducible exact ih0 _ _ _ _ _ _)
   | (with_reducible exact ih1 _ _ _ _)
   | (with_reducible exact impl_MtIsPattern.mono _ _)
   | (with_reducible exact laws_mtTold.mono _ _ _)
   | (with_reducible exact spec_Globs.mono _ _)
   | (with_reducible exact LeO.refl _)
   | (with_reducible exact LeO.none _)
   | (with_reducible refine LeO.ite ?_ ?_)
   | (with_reducible refine LeO.bind ?_ (fun _ => ?_))
   | exact ih0 _ _ _ _ _ _
   | exact ih1 _ _ _ _
   | exact impl_MtIsPattern.mono _ _
   | exact laws_mtTold.mono _ _ _
   | exact spec_Globs.mono _ _
   | exact LeO.none _
   | refine LeO.ite ?_ ?_
   | refine LeO.bind ?_ (fun _ => ?_)
  ·
   intro y0 y1 y2 y3
   unfold laws_FnMtIsPattern.l1
   repeat' first
   | (with_reducible exact ih0 _ _ _ _ _ _)
   | (with_reducible exact ih1 _ _ _ _)
   | (with_reducible exact impl_MtIsPattern.mono _ _)
   | (with_reducible exact laws_mtTold.mono _ _ _)
   | (with_reducible exact spec_Globs.mono _ _)
   | (with_reducible exact LeO.refl _)
   | (with_reducible exact LeO.none _)
   | (with_reducible refine LeO.ite ?_ ?_)
   | (with_reducible refine LeO.bind ?_ (fun _ => ?_))
   | exact ih0 _ _ _ _ _ _
   | exact ih1 _ _ _ _
   | exact impl_MtIsPattern.mono _ _
   | exact laws_mtTold.mono _ _ _
   | exact spec_Globs.mono _ _
   | exact LeO.none _
   | refine LeO.ite ?_ ?_
   | refine LeO.bind ?_ (fun _ => ?_)
theorem laws_FnMtIsPattern.mono : ∀ a0 k, LeO (laws_FnMtIsPattern.f k a0) (laws_FnMtIsPattern.f (k + 1) a0) := by
 intro a0 k
 obtain ⟨ih0, ih1⟩ := laws_FnMtIsPattern.mono_l k
 unfold laws_FnMtIsPattern.f
 repeat' first
   | (with_reducible exact ih0 _ _ _ _ _ _)
   | (with_reducible exact ih1 _ _ _ _)
   | (with_reducible exact impl_MtIsPattern.mono _ _)
   | (with_reducible exact laws_mtTold.mono _ _ _)
   | (with_reducible exact spec_Globs.mono _ _)
   | (with_reducible exact LeO.refl _)
   | (with_reducible exact LeO.none _)
   | (with_reducible refine LeO.ite ?_ ?_)
   | (with_reducible refine LeO.bind ?_ (fun _ => ?_))
   | exact ih0 _ _ _ _ _ _
   | exact ih1 _ _ _ _
   | exact impl_MtIsPattern.mono _ _
   | exact laws_mtTold.mono _ _ _
   | exact spec_Globs.mono _ _
   | exact LeO.none _
   | refine LeO.ite ?_ ?_
   | refine LeO.bind ?_ (fun _ => ?_)
set_option maxHeartbeats 8000000 in
set_option maxRecDepth 100000 in
theorem laws_FnMtIsPattern.calls (k : Nat) (a0 : ByteArray) (r : Bool) (w : World) (h : laws_FnMtIsPattern.f k a0 = some r) :
  Calls Try.prog 3 #[.string a0] w fun e w' => e = .returned (.bool r) ∧ Below w.heap.size w w' := by
 have hu28 := Try.underlying28
 have HB := Aside0.mk (Below.refl w.heap.size w)
 have H : (if (a0.size : Int) > 2147483647 then (some true) else ((laws_mtTold.f k (⟨#[]⟩ : ByteArray) a0).bind fun bt158 => ((spec_Globs.f k a0).bind fun bt160 => (if bt158.2 = true then (laws_FnMtIsPattern.l0 k a0 false false bt160.1 (bt160.1.length : Int) 0) else (some true))))) = some r := h
 clear h
 by_cases c2 : (a0.size : Int) > 2147483647
 ·
  rw [if_pos c2] at H
  have c2b0 : decide (2147483647 < (a0.size : Int)) = true := decide_eq_true c2
  have c2b1 : decide (2147483647 < a0.size) = true := decide_eq_true (by omega)
  clear c2
  obtain rfl := Option.some.inj H
  go_enter Try.func3, Try.ntmps3
  go_wp2
  go_ret
  exact ⟨by first | rfl | (simp [errW_none, errW_some] <;> rfl) | (simp [*, errW_none, errW_some] <;> rfl), by repeat (first | (with_reducible first | exact HB.out | apply below_alloc | apply pw_below_drewN | apply below_drew1) | exact HB.out)⟩
 ·
  rw [if_neg c2] at H
  have c2b0 : decide (2147483647 < (a0.size : Int)) = false := decide_eq_false c2
  have c2b1 : decide (2147483647 < a0.size) = false := decide_eq_false (by omega)
  clear c2
  replace H := Option.bind_eq_some_iff.mp H
  obtain ⟨⟨t158, t159⟩, A30, H⟩ := H
  replace H : ((spec_Globs.f k a0).bind fun bt160 => (if t159 = true then (laws_FnMtIsPattern.l0 k a0 false false bt160.1 (bt160.1.length : Int) 0) else (some true))) = some r := H
  have A3 := Aside0.mk A30
  clear A30
  replace H := Option.bind_eq_some_iff.mp H
  obtain ⟨⟨t160, t161⟩, A40, H⟩ := H
  replace H : (if t159 = true then (laws_FnMtIsPattern.l0 k a0 false false t160 (t160.length : Int) 0) else (some true)) = some r := H
  have A4 := Aside0.mk A40
  clear A40
  by_cases c5 : t159 = true
  ·
   subst c5
   have H1 : (laws_FnMtIsPattern.l0 k a0 false false t160 (t160.length : Int) 0) = some r := by rw [if_pos rfl] at H; exact H
   clear H
   have H := H1
   clear H1
   have H' := Aside0.mk H
   clear H
   go_enter Try.func3, Try.ntmps3
   go_wp2_with (first | ((with_reducible refine gate_callee (f := 10) rfl ?_); refine goesL_ (some 17) rfl rfl Try.func10 (by kernel_rfl) rfl #[.string (⟨#[]⟩ : ByteArray), .string a0] rfl (by (try simp only [List.map_toArray, List.map_cons, List.map_nil]); first | done | rfl | (simp only [List.length_drop, List.length_take]; rfl)) ?_; (with_reducible refine (laws_mtTold.calls k (⟨#[]⟩ : ByteArray) a0 t158 true _ A3.out).mono ?_); rintro e w6 ⟨rfl, hb⟩; refine ⟨_, rfl, ?_⟩; have n0_ := Aside0.mk (below_step (by repeat (first | (with_reducible first | exact HB.out | apply below_alloc | apply pw_below_drewN | apply below_drew1) | exact HB.out)) hb); clear HB; have HB := n0_; clear n0_; (try clear hb); (try clear hb2); (try clear hk); (try clear hi)) | ((with_reducible refine gate_callee (f := 11) rfl ?_); refine goesL_ (some 22) rfl rfl Try.func11 (by kernel_rfl) rfl #[.string a0] rfl (by (try simp only [List.map_toArray, List.map_cons, List.map_nil]); first | done | rfl | (simp only [List.length_drop, List.length_take]; rfl)) ?_; (with_reducible refine (spec_Globs.calls k a0 t160 t161 _ A4.out).mono ?_); rintro e w7 ⟨v162, rfl, ho0, hb⟩; refine ⟨_, rfl, ?_⟩; have n0_ := Aside0.mk (Kd.R_lower ho0 (below_size (by repeat (first | (with_reducible first | exact HB.out | apply below_alloc | apply pw_below_drewN | apply below_drew1) | exact HB.out)))); have n1_ := Aside0.mk (below_step (by repeat (first | (with_reducible first | exact HB.out | apply below_alloc | apply pw_below_drewN | apply below_drew1) | exact HB.out)) hb); clear HB; have HO163 := n0_; have HB := n1_; clear n0_ n1_; (try clear hb); (try clear hb2); (try clear hk); (try clear hi); (try clear ho0); obtain ⟨Ao8, co8, eo8⟩ := Kd.R_slice HO163.out; subst eo8))
   go_loopg [7, 29] k (fun kq v7 v29 w' => ∃ (x7_1 : Bool) (x29_1 : Int), v7 = .bool x7_1 ∧ v29 = .int .i64 x29_1 ∧ Aside0 (laws_FnMtIsPattern.l0 kq a0 x7_1 false t160 (t160.length : Int) x29_1 = some r) ∧ Aside0 (kq ≤ k) ∧ Aside0 (Kd.R k28 28 w' w.heap.size (fun _ => True) (.slice Ao8 t160.length co8) t160) ∧ Aside0 (Below w.heap.size w w'))
   case atStart => exact ⟨(false), (0), (by first | rfl | (simp; done) | (simp [*]; done) | (simp; rw [Bool.eq_iff_iff]; simp; done)), (by first | rfl | (simp; done) | (simp [*]; done) | (simp; rw [Bool.eq_iff_iff]; simp; done)), H', ⟨Nat.le_refl _⟩, ⟨by (with_reducible repeat (first | apply Kd.R_alloc | apply Kd.R_drewN | apply Kd.R_drew)); exact HO163.out⟩, ⟨by repeat (first | (with_reducible first | exact HB.out | apply below_alloc | apply pw_below_drewN | apply below_drew1) | exact HB.out)⟩⟩
   case round =>
    clear H'
    (try clear c1); (try clear c2); (try clear c2b0); (try clear c2b1); (try clear p2); (try clear c3); (try clear c5)
    obtain ⟨x7_1, x29_1, rfl, rfl, HA, HK1, HO_27, HB⟩ := hrel
    cases gk with
    | zero => exact absurd HA.out (by simp [laws_FnMtIsPattern.l0])
    | succ k1 =>
     have H := HA.out
     clear HA
     simp only [laws_FnMtIsPattern.l0] at H
     by_cases c9 : x29_1 < (t160.length : Int)
     ·
      rw [if_pos c9] at H
      have c9b0 : decide (x29_1 < (t160.length : Int)) = true := decide_eq_true c9
      clear c9
      by_cases c10 : 0 ≤ x29_1
      ·
       rw [if_pos c10] at H
       have c10b0 : decide (0 ≤ x29_1) = true := decide_eq_true c10
       clear c10
       by_cases c11 : x29_1 < (t160.length : Int)
       ·
        rw [if_pos c11] at H
        have c11b0 : decide (x29_1 < (t160.length : Int)) = true := decide_eq_true c11
        clear c11
        by_cases c12 : x7_1 = true
        ·
         subst c12
         have H1 : (laws_FnMtIsPattern.l0 k1 a0 true false t160 (t160.length : Int) (wrap64 (x29_1 + 1))) = some r := by rw [if_pos rfl] at H; exact H
         clear H
         have H := H1
         clear H1
         have H' := Aside0.mk H
         clear H
         have p164 : 0 ≤ (x29_1 : Int) := of_decide_eq_true (by first | (with_reducible assumption) | assumption)
         have q164 : x29_1 < (t160.length : Int) := of_decide_eq_true (by first | (with_reducible assumption) | assumption)
         obtain ⟨ad164, e164, hx164_0, hx164_1, hx164_2⟩ := at_T28 (Kd.R_reads' HO_27.out).2.2 x29_1 p164 q164
         cases e164
         replace p164 := eq_true p164
         replace q164 := eq_true q164
         go_wp2_with (first | ((with_reducible refine gate_dst (N := 10) rfl ?_); refine box_event ?hg (N := 10) ?hd (cs := #[.bool false, .bool false, .int .i64 0]) (t := 28) ?hr ?_; (case hd => rfl); (case hg => rfl); (case hr => first | (go_simp; done) | (go_simp; rfl)); intro gb165 hg w13 hbox hb; have n0_ := Aside0.mk (Kd.R_below (Kd.R_elderB (by (with_reducible repeat (first | apply Kd.R_alloc | apply Kd.R_drewN | apply Kd.R_drew)); exact HO_27.out) gb165 (Nat.le_of_eq hg.symm)) hb); have n1_ := Aside0.mk (below_step (by repeat (first | (with_reducible first | exact HB.out | apply below_alloc | apply pw_below_drewN | apply below_drew1) | exact HB.out)) hb); have n2_ := Aside0.mk (hbox); have n3_ := Aside0.mk ((by rw [hg]; exact (below_size (by repeat (first | (with_reducible first | exact HB.out | apply below_alloc | apply pw_below_drewN | apply below_drew1) | exact HB.out))) : w.heap.size ≤ gb165)); have n4_ := Aside0.mk ((by rw [hg]; exact (below_size (by repeat (first | (with_reducible first | exact HB.out | apply below_alloc | apply pw_below_drewN | apply below_drew1) | exact HB.out))) : w.heap.size ≤ gb165)); clear HO_27; clear HB; have HO_27 := n0_; have HB := n1_; have BK165 := n2_; have GW165 := n3_; have GE165 := n4_; clear n0_ n1_ n2_ n3_ n4_; clear hb hbox hg; have hcz14_0 : w13.cell? ⟨gb165, 0, none⟩ = some (.bool false) := (blk_cell BK165.out 0).trans rfl; have hcz14_1 : w13.cell? ⟨gb165, 1, none⟩ = some (.bool false) := (blk_cell BK165.out 1).trans rfl; have hcz14_2 : w13.cell? ⟨gb165, 2, none⟩ = some (.int .i64 0) := (blk_cell BK165.out 2).trans rfl; have hfz14_0 := blk_frozen BK165.out 0; have hfz14_1 := blk_frozen BK165.out 1; have hfz14_2 := blk_frozen BK165.out 2))
         go_roundg k1
         case measure => have := HK1.out; omega
         case rel => exact ⟨(true), (wrap64 (x29_1 + 1)), (by first | rfl | (simp; done) | (simp [*]; done) | (simp; rw [Bool.eq_iff_iff]; simp; done)), (by first | rfl | (simp; done) | (simp [*]; done) | (simp; rw [Bool.eq_iff_iff]; simp; done)), H', ⟨by have := HK1.out; omega⟩, ⟨by (with_reducible repeat (first | apply Kd.R_alloc | apply Kd.R_drewN | apply Kd.R_drew)); exact Kd.R_mono (Kd.R_far (p := ⟨gb165, 2, none⟩) (Kd.R_far (p := ⟨gb165, 1, none⟩) (Kd.R_far (p := ⟨gb165, 0, none⟩) (Kd.R_mono HO_27.out (fun k_ hk => (⟨hk, hk.2⟩ : _ ∧ k_ ≠ gb165))) (fun _ hk => hk.2) (.bool ((rd_T28 t160 x29_1).f0))) (fun _ hk => hk.2) (.bool ((rd_T28 t160 x29_1).f1))) (fun _ hk => hk.2) (.int .i64 ((rd_T28 t160 x29_1).f2))) (fun _ hk => trivial)⟩, ⟨by repeat (first | (with_reducible first | exact HB.out | apply below_alloc | apply pw_below_drewN | apply below_drew1 | refine below_set ?_ GE165.out) | exact HB.out)⟩⟩
        ·
         replace c12 := Bool.eq_false_iff.mpr c12
         subst c12
         have H1 : (if (rd_T28 t160 x29_1).f0 = true then (laws_FnMtIsPattern.l0 k1 a0 true false t160 (t160.length : Int) (wrap64 (x29_1 + 1))) else (laws_FnMtIsPattern.l0 k1 a0 ((rd_T28 t160 x29_1).f1) false t160 (t160.length : Int) (wrap64 (x29_1 + 1)))) = some r := by rw [if_neg (show ¬ (false = true) by decide)] at H; exact H
         clear H
         have H := H1
         clear H1
         obtain ⟨bq15, hbq15⟩ : ∃ b_ : Bool, b_ = ((rd_T28 t160 x29_1).f0) := ⟨_, rfl⟩
         replace H : (if bq15 = true then (laws_FnMtIsPattern.l0 k1 a0 true false t160 (t160.length : Int) (wrap64 (x29_1 + 1))) else (laws_FnMtIsPattern.l0 k1 a0 ((rd_T28 t160 x29_1).f1) false t160 (t160.length : Int) (wrap64 (x29_1 + 1)))) = some r := by rw [← hbq15] at H; exact H
         have Nbq15 := Aside0.mk hbq15
         clear hbq15
         by_cases c16 : bq15 = true
         ·
          subst c16
          have H1 : (laws_FnMtIsPattern.l0 k1 a0 true false t160 (t160.length : Int) (wrap64 (x29_1 + 1))) = some r := by rw [if_pos rfl] at H; exact H
          clear H
          have H := H1
          clear H1
          have H' := Aside0.mk H
          clear H
          have p164 : 0 ≤ (x29_1 : Int) := of_decide_eq_true (by first | (with_reducible assumption) | assumption)
          have q164 : x29_1 < (t160.length : Int) := of_decide_eq_true (by first | (with_reducible assumption) | assumption)
          obtain ⟨ad164, e164, hx164_0, hx164_1, hx164_2⟩ := at_T28 (Kd.R_reads' HO_27.out).2.2 x29_1 p164 q164
          (try rw [← Nbq15.out] at hx164_0)
          (try rw [← Nbq15.out] at hx164_1)
          cases e164
          replace p164 := eq_true p164
          replace q164 := eq_true q164
          go_wp2_with (first | ((with_reducible refine gate_dst (N := 10) rfl ?_); refine box_event ?hg (N := 10) ?hd (cs := #[.bool false, .bool false, .int .i64 0]) (t := 28) ?hr ?_; (case hd => rfl); (case hg => rfl); (case hr => first | (go_simp; done) | (go_simp; rfl)); intro gb165 hg w17 hbox hb; have n0_ := Aside0.mk (Kd.R_below (Kd.R_elderB (by (with_reducible repeat (first | apply Kd.R_alloc | apply Kd.R_drewN | apply Kd.R_drew)); exact HO_27.out) gb165 (Nat.le_of_eq hg.symm)) hb); have n1_ := Aside0.mk (below_step (by repeat (first | (with_reducible first | exact HB.out | apply below_alloc | apply pw_below_drewN | apply below_drew1) | exact HB.out)) hb); have n2_ := Aside0.mk (hbox); have n3_ := Aside0.mk ((by rw [hg]; exact (below_size (by repeat (first | (with_reducible first | exact HB.out | apply below_alloc | apply pw_below_drewN | apply below_drew1) | exact HB.out))) : w.heap.size ≤ gb165)); have n4_ := Aside0.mk ((by rw [hg]; exact (below_size (by repeat (first | (with_reducible first | exact HB.out | apply below_alloc | apply pw_below_drewN | apply below_drew1) | exact HB.out))) : w.heap.size ≤ gb165)); clear HO_27; clear HB; have HO_27 := n0_; have HB := n1_; have BK165 := n2_; have GW165 := n3_; have GE165 := n4_; clear n0_ n1_ n2_ n3_ n4_; clear hb hbox hg; have hcz18_0 : w17.cell? ⟨gb165, 0, none⟩ = some (.bool false) := (blk_cell BK165.out 0).trans rfl; have hcz18_1 : w17.cell? ⟨gb165, 1, none⟩ = some (.bool false) := (blk_cell BK165.out 1).trans rfl; have hcz18_2 : w17.cell? ⟨gb165, 2, none⟩ = some (.int .i64 0) := (blk_cell BK165.out 2).trans rfl; have hfz18_0 := blk_frozen BK165.out 0; have hfz18_1 := blk_frozen BK165.out 1; have hfz18_2 := blk_frozen BK165.out 2))
          go_roundg k1
          case measure => have := HK1.out; omega
          case rel => exact ⟨(true), (wrap64 (x29_1 + 1)), (by first | rfl | (simp; done) | (simp [*]; done) | (simp; rw [Bool.eq_iff_iff]; simp; done)), (by first | rfl | (simp; done) | (simp [*]; done) | (simp; rw [Bool.eq_iff_iff]; simp; done)), H', ⟨by have := HK1.out; omega⟩, ⟨by (with_reducible repeat (first | apply Kd.R_alloc | apply Kd.R_drewN | apply Kd.R_drew)); exact Kd.R_mono (Kd.R_far (p := ⟨gb165, 2, none⟩) (Kd.R_far (p := ⟨gb165, 1, none⟩) (Kd.R_far (p := ⟨gb165, 0, none⟩) (Kd.R_mono HO_27.out (fun k_ hk => (⟨hk, hk.2⟩ : _ ∧ k_ ≠ gb165))) (fun _ hk => hk.2) (.bool true)) (fun _ hk => hk.2) (.bool ((rd_T28 t160 x29_1).f1))) (fun _ hk => hk.2) (.int .i64 ((rd_T28 t160 x29_1).f2))) (fun _ hk => trivial)⟩, ⟨by repeat (first | (with_reducible first | exact HB.out | apply below_alloc | apply pw_below_drewN | apply below_drew1 | refine below_set ?_ GE165.out) | exact HB.out)⟩⟩
         ·
          replace c16 := Bool.eq_false_iff.mpr c16
          subst c16
          have H1 : (laws_FnMtIsPattern.l0 k1 a0 ((rd_T28 t160 x29_1).f1) false t160 (t160.length : Int) (wrap64 (x29_1 + 1))) = some r := by rw [if_neg (show ¬ (false = true) by decide)] at H; exact H
          clear H
          have H := H1
          clear H1
          have H' := Aside0.mk H
          clear H
          have p164 : 0 ≤ (x29_1 : Int) := of_decide_eq_true (by first | (with_reducible assumption) | assumption)
          have q164 : x29_1 < (t160.length : Int) := of_decide_eq_true (by first | (with_reducible assumption) | assumption)
          obtain ⟨ad164, e164, hx164_0, hx164_1, hx164_2⟩ := at_T28 (Kd.R_reads' HO_27.out).2.2 x29_1 p164 q164
          (try rw [← Nbq15.out] at hx164_0)
          (try rw [← Nbq15.out] at hx164_1)
          cases e164
          replace p164 := eq_true p164
          replace q164 := eq_true q164
          go_wp2_with (first | ((with_reducible refine gate_dst (N := 10) rfl ?_); refine box_event ?hg (N := 10) ?hd (cs := #[.bool false, .bool false, .int .i64 0]) (t := 28) ?hr ?_; (case hd => rfl); (case hg => rfl); (case hr => first | (go_simp; done) | (go_simp; rfl)); intro gb165 hg w19 hbox hb; have n0_ := Aside0.mk (Kd.R_below (Kd.R_elderB (by (with_reducible repeat (first | apply Kd.R_alloc | apply Kd.R_drewN | apply Kd.R_drew)); exact HO_27.out) gb165 (Nat.le_of_eq hg.symm)) hb); have n1_ := Aside0.mk (below_step (by repeat (first | (with_reducible first | exact HB.out | apply below_alloc | apply pw_below_drewN | apply below_drew1) | exact HB.out)) hb); have n2_ := Aside0.mk (hbox); have n3_ := Aside0.mk ((by rw [hg]; exact (below_size (by repeat (first | (with_reducible first | exact HB.out | apply below_alloc | apply pw_below_drewN | apply below_drew1) | exact HB.out))) : w.heap.size ≤ gb165)); have n4_ := Aside0.mk ((by rw [hg]; exact (below_size (by repeat (first | (with_reducible first | exact HB.out | apply below_alloc | apply pw_below_drewN | apply below_drew1) | exact HB.out))) : w.heap.size ≤ gb165)); clear HO_27; clear HB; have HO_27 := n0_; have HB := n1_; have BK165 := n2_; have GW165 := n3_; have GE165 := n4_; clear n0_ n1_ n2_ n3_ n4_; clear hb hbox hg; have hcz20_0 : w19.cell? ⟨gb165, 0, none⟩ = some (.bool false) := (blk_cell BK165.out 0).trans rfl; have hcz20_1 : w19.cell? ⟨gb165, 1, none⟩ = some (.bool false) := (blk_cell BK165.out 1).trans rfl; have hcz20_2 : w19.cell? ⟨gb165, 2, none⟩ = some (.int .i64 0) := (blk_cell BK165.out 2).trans rfl; have hfz20_0 := blk_frozen BK165.out 0; have hfz20_1 := blk_frozen BK165.out 1; have hfz20_2 := blk_frozen BK165.out 2))
          go_roundg k1
          case measure => have := HK1.out; omega
          case rel => exact ⟨((rd_T28 t160 x29_1).f1), (wrap64 (x29_1 + 1)), (by first | rfl | (simp; done) | (simp [*]; done) | (simp; rw [Bool.eq_iff_iff]; simp; done)), (by first | rfl | (simp; done) | (simp [*]; done) | (simp; rw [Bool.eq_iff_iff]; simp; done)), H', ⟨by have := HK1.out; omega⟩, ⟨by (with_reducible repeat (first | apply Kd.R_alloc | apply Kd.R_drewN | apply Kd.R_drew)); exact Kd.R_mono (Kd.R_far (p := ⟨gb165, 2, none⟩) (Kd.R_far (p := ⟨gb165, 1, none⟩) (Kd.R_far (p := ⟨gb165, 0, none⟩) (Kd.R_mono HO_27.out (fun k_ hk => (⟨hk, hk.2⟩ : _ ∧ k_ ≠ gb165))) (fun _ hk => hk.2) (.bool false)) (fun _ hk => hk.2) (.bool ((rd_T28 t160 x29_1).f1))) (fun _ hk => hk.2) (.int .i64 ((rd_T28 t160 x29_1).f2))) (fun _ hk => trivial)⟩, ⟨by repeat (first | (with_reducible first | exact HB.out | apply below_alloc | apply pw_below_drewN | apply below_drew1 | refine below_set ?_ GE165.out) | exact HB.out)⟩⟩
       ·
        rw [if_neg c11] at H
        exact absurd H (by simp)
      ·
       rw [if_neg c10] at H
       exact absurd H (by simp)
     ·
      rw [if_neg c9] at H
      have c9b0 : decide (x29_1 < (t160.length : Int)) = false := decide_eq_false c9
      clear c9
      have H' := Aside0.mk H
      clear H
      go_wp2
      go_loopg [8, 11] k1 (fun kq v8 v11 w' => ∃ (x8_2 : Bool) (x11_2 : Int), v8 = .bool x8_2 ∧ v11 = .int .i64 x11_2 ∧ Aside0 (laws_FnMtIsPattern.l1 kq a0 x7_1 x8_2 x11_2 = some r) ∧ Aside0 (kq ≤ k1) ∧ Aside0 (Below w.heap.size w w'))
      case atStart => exact ⟨(false), (0), (by first | rfl | (simp; done) | (simp [*]; done) | (simp; rw [Bool.eq_iff_iff]; simp; done)), (by first | rfl | (simp; done) | (simp [*]; done) | (simp; rw [Bool.eq_iff_iff]; simp; done)), H', ⟨Nat.le_refl _⟩, ⟨by repeat (first | (with_reducible first | exact HB.out | apply below_alloc | apply pw_below_drewN | apply below_drew1) | exact HB.out)⟩⟩
      case round =>
       clear H'
       (try clear c1); (try clear p1); (try clear q1); (try clear hx1); (try clear c2); (try clear c2b0); (try clear c2b1); (try clear p2); (try clear c3); (try clear c5); (try clear p6); (try clear c9); (try clear c9b0); (try clear c10); (try clear c10b0); (try clear c11); (try clear c11b0); (try clear c12); (try clear q15); (try clear c16); (try clear p16); (try clear q16); (try clear hx16); (try clear hcz14_0); (try clear hcz14_1); (try clear hcz14_2); (try clear hcz18_0); (try clear hcz18_1); (try clear hcz18_2); (try clear hcz20_0); (try clear hcz20_1); (try clear hcz20_2); (try clear hfz14_0); (try clear hfz14_1); (try clear hfz14_2); (try clear hfz18_0); (try clear hfz18_1); (try clear hfz18_2); (try clear hfz20_0); (try clear hfz20_1); (try clear hfz20_2); (try clear hx164_0); (try clear hx164_1); (try clear hx164_2); (try clear p164); (try clear p2); (try clear q164)
       obtain ⟨x8_2, x11_2, rfl, rfl, HA, HK2, HB⟩ := hrel
       cases gk with
       | zero => exact absurd HA.out (by simp [laws_FnMtIsPattern.l1])
       | succ k2 =>
        have H := HA.out
        clear HA
        simp only [laws_FnMtIsPattern.l1] at H
        by_cases c21 : x11_2 < (a0.size : Int)
        ·
         rw [if_pos c21] at H
         have c21b0 : decide (x11_2 < (a0.size : Int)) = true := decide_eq_true c21
         clear c21
         by_cases c22 : x8_2 = true
         ·
          subst c22
          have H1 : (laws_FnMtIsPattern.l1 k2 a0 x7_1 true (wrap64 (x11_2 + 1))) = some r := by rw [if_pos rfl] at H; exact H
          clear H
          have H := H1
          clear H1
          have H' := Aside0.mk H
          clear H
          go_wp2
          go_roundg k2
          case measure => have := HK1.out; have := HK2.out; omega
          case rel => exact ⟨(true), (wrap64 (x11_2 + 1)), (by first | rfl | (simp; done) | (simp [*]; done) | (simp; rw [Bool.eq_iff_iff]; simp; done)), (by first | rfl | (simp; done) | (simp [*]; done) | (simp; rw [Bool.eq_iff_iff]; simp; done)), H', ⟨by have := HK1.out; have := HK2.out; omega⟩, ⟨by repeat (first | (with_reducible first | exact HB.out | apply below_alloc | apply pw_below_drewN | apply below_drew1) | exact HB.out)⟩⟩
         ·
          replace c22 := Bool.eq_false_iff.mpr c22
          subst c22
          have H1 : (if 0 ≤ x11_2 then (if (bt a0 x11_2) = 42 then (laws_FnMtIsPattern.l1 k2 a0 x7_1 true (wrap64 (x11_2 + 1))) else (laws_FnMtIsPattern.l1 k2 a0 x7_1 ((bt a0 x11_2) == 63) (wrap64 (x11_2 + 1)))) else (none)) = some r := by rw [if_neg (show ¬ (false = true) by decide)] at H; exact H
          clear H
          have H := H1
          clear H1
          by_cases c23 : 0 ≤ x11_2
          ·
           rw [if_pos c23] at H
           have c23b0 : decide (0 ≤ x11_2) = true := decide_eq_true c23
           clear c23
           by_cases c25 : (bt a0 x11_2) = 42
           ·
            rw [if_pos c25] at H
            have c25b0 : ((bt a0 x11_2) == 42) = true := beq_iff_eq.mpr c25
            have c25b1 : ((bt a0 x11_2) != 42) = false := bne_eq_false_iff_eq.mpr c25
            clear c25
            have H' := Aside0.mk H
            clear H
            have p24 : 0 ≤ (x11_2 : Int) := of_decide_eq_true (by first | (with_reducible assumption) | assumption)
            have q24 : x11_2 < (a0.size : Int) := of_decide_eq_true (by first | (with_reducible assumption) | assumption)
            have hx24 := bt_at a0 x11_2
            replace p24 := eq_true p24
            replace q24 := eq_true q24
            go_wp2
            go_roundg k2
            case measure => have := HK1.out; have := HK2.out; omega
            case rel => exact ⟨(true), (wrap64 (x11_2 + 1)), (by first | rfl | (simp; done) | (simp [*]; done) | (simp; rw [Bool.eq_iff_iff]; simp; done)), (by first | rfl | (simp; done) | (simp [*]; done) | (simp; rw [Bool.eq_iff_iff]; simp; done)), H', ⟨by have := HK1.out; have := HK2.out; omega⟩, ⟨by repeat (first | (with_reducible first | exact HB.out | apply below_alloc | apply pw_below_drewN | apply below_drew1) | exact HB.out)⟩⟩
           ·
            rw [if_neg c25] at H
            have c25b0 : ((bt a0 x11_2) == 42) = false := beq_eq_false_iff_ne.mpr c25
            have c25b1 : ((bt a0 x11_2) != 42) = true := bne_iff_ne.mpr c25
            have H' := Aside0.mk H
            clear H
            have p24 : 0 ≤ (x11_2 : Int) := of_decide_eq_true (by first | (with_reducible assumption) | assumption)
            have q24 : x11_2 < (a0.size : Int) := of_decide_eq_true (by first | (with_reducible assumption) | assumption)
            have hx24 := bt_at a0 x11_2
            replace p24 := eq_true p24
            replace q24 := eq_true q24
            have p26 : 0 ≤ (x11_2 : Int) := of_decide_eq_true (by first | (with_reducible assumption) | assumption)
            have q26 : x11_2 < (a0.size : Int) := of_decide_eq_true (by first | (with_reducible assumption) | assumption)
            have hx26 := bt_at a0 x11_2
            replace p26 := eq_true p26
            replace q26 := eq_true q26
            go_wp2
            go_roundg k2
            case measure => have := HK1.out; have := HK2.out; omega
            case rel => exact ⟨(((bt a0 x11_2) == 63)), (wrap64 (x11_2 + 1)), (by first | rfl | (simp; done) | (simp [*]; done) | (simp; rw [Bool.eq_iff_iff]; simp; done)), (by first | rfl | (simp; done) | (simp [*]; done) | (simp; rw [Bool.eq_iff_iff]; simp; done)), H', ⟨by have := HK1.out; have := HK2.out; omega⟩, ⟨by repeat (first | (with_reducible first | exact HB.out | apply below_alloc | apply pw_below_drewN | apply below_drew1) | exact HB.out)⟩⟩
          ·
           rw [if_neg c23] at H
           exact absurd H (by simp)
        ·
         rw [if_neg c21] at H
         have c21b0 : decide (x11_2 < (a0.size : Int)) = false := decide_eq_false c21
         clear c21
         by_cases c27 : x7_1 = true
         ·
          subst c27
          have H1 : ((impl_MtIsPattern.f k2 a0).bind fun t166 => (some t166)) = some r := by rw [if_pos rfl] at H; exact H
          clear H
          have H := H1
          clear H1
          replace H := Option.bind_eq_some_iff.mp H
          obtain ⟨t166, A280, H⟩ := H
          replace H : (some t166) = some r := H
          have A28 := Aside0.mk A280
          clear A280
          obtain rfl := Option.some.inj H
          go_wp2_with (first | ((with_reducible refine gate_callee (f := 12) rfl ?_); refine goesL_ (some 64) rfl rfl Try.func12 (by kernel_rfl) rfl #[.string a0] rfl (by (try simp only [List.map_toArray, List.map_cons, List.map_nil]); first | done | rfl | (simp only [List.length_drop, List.length_take]; rfl)) ?_; (with_reducible refine (impl_MtIsPattern.calls k2 a0 t166 _ A28.out).mono ?_); rintro e w' ⟨rfl, ⟨nd, rfl⟩⟩; refine ⟨_, rfl, ?_⟩))
          go_ret
          exact ⟨by first | rfl | (simp [errW_none, errW_some] <;> rfl) | (simp [*, errW_none, errW_some] <;> rfl), by repeat (first | (with_reducible first | exact HB.out | apply below_alloc | apply pw_below_drewN | apply below_drew1) | exact HB.out)⟩
         ·
          replace c27 := Bool.eq_false_iff.mpr c27
          subst c27
          have H1 : (if x8_2 = true then (some true) else ((impl_MtIsPattern.f k2 a0).bind fun t167 => (some (!t167)))) = some r := by rw [if_neg (show ¬ (false = true) by decide)] at H; exact H
          clear H
          have H := H1
          clear H1
          by_cases c29 : x8_2 = true
          ·
           subst c29
           have H1 : (some true) = some r := by rw [if_pos rfl] at H; exact H
           clear H
           have H := H1
           clear H1
           obtain rfl := Option.some.inj H
           go_wp2
           go_ret
           exact ⟨by first | rfl | (simp [errW_none, errW_some] <;> rfl) | (simp [*, errW_none, errW_some] <;> rfl), by repeat (first | (with_reducible first | exact HB.out | apply below_alloc | apply pw_below_drewN | apply below_drew1) | exact HB.out)⟩
          ·
           replace c29 := Bool.eq_false_iff.mpr c29
           subst c29
           have H1 : ((impl_MtIsPattern.f k2 a0).bind fun t167 => (some (!t167))) = some r := by rw [if_neg (show ¬ (false = true) by decide)] at H; exact H
           clear H
           have H := H1
           clear H1
           replace H := Option.bind_eq_some_iff.mp H
           obtain ⟨t167, A300, H⟩ := H
           replace H : (some (!t167)) = some r := H
           have A30 := Aside0.mk A300
           clear A300
           obtain rfl := Option.some.inj H
           go_wp2_with (first | (go_at_call 12; (with_reducible refine (impl_MtIsPattern.calls k2 a0 t167 _ A30.out).mono ?_); rintro e w' ⟨rfl, ⟨nd, rfl⟩⟩))
           go_ret
           exact ⟨by first | rfl | (simp [errW_none, errW_some] <;> rfl) | (simp [*, errW_none, errW_some] <;> rfl), by repeat (first | (with_reducible first | exact HB.out | apply below_alloc | apply pw_below_drewN | apply below_drew1) | exact HB.out)⟩
  ·
   replace c5 := Bool.eq_false_iff.mpr c5
   subst c5
   have H1 : (some true) = some r := by rw [if_neg (show ¬ (false = true) by decide)] at H; exact H
   clear H
   have H := H1
   clear H1
   obtain rfl := Option.some.inj H
   go_enter Try.func3, Try.ntmps3
   go_wp2_with (first | ((with_reducible refine gate_callee (f := 10) rfl ?_); refine goesL_ (some 17) rfl rfl Try.func10 (by kernel_rfl) rfl #[.string (⟨#[]⟩ : ByteArray), .string a0] rfl (by (try simp only [List.map_toArray, List.map_cons, List.map_nil]); first | done | rfl | (simp only [List.length_drop, List.length_take]; rfl)) ?_; (with_reducible refine (laws_mtTold.calls k (⟨#[]⟩ : ByteArray) a0 t158 false _ A3.out).mono ?_); rintro e w31 ⟨rfl, hb⟩; refine ⟨_, rfl, ?_⟩; have n0_ := Aside0.mk (below_step (by repeat (first | (with_reducible first | exact HB.out | apply below_alloc | apply pw_below_drewN | apply below_drew1) | exact HB.out)) hb); clear HB; have HB := n0_; clear n0_; (try clear hb); (try clear hb2); (try clear hk); (try clear hi)) | ((with_reducible refine gate_callee (f := 11) rfl ?_); refine goesL_ (some 22) rfl rfl Try.func11 (by kernel_rfl) rfl #[.string a0] rfl (by (try simp only [List.map_toArray, List.map_cons, List.map_nil]); first | done | rfl | (simp only [List.length_drop, List.length_take]; rfl)) ?_; (with_reducible refine (spec_Globs.calls k a0 t160 t161 _ A4.out).mono ?_); rintro e w32 ⟨v162, rfl, ho0, hb⟩; refine ⟨_, rfl, ?_⟩; have n0_ := Aside0.mk (Kd.R_lower ho0 (below_size (by repeat (first | (with_reducible first | exact HB.out | apply below_alloc | apply pw_below_drewN | apply below_drew1) | exact HB.out)))); have n1_ := Aside0.mk (below_step (by repeat (first | (with_reducible first | exact HB.out | apply below_alloc | apply pw_below_drewN | apply below_drew1) | exact HB.out)) hb); clear HB; have HO163 := n0_; have HB := n1_; clear n0_ n1_; (try clear hb); (try clear hb2); (try clear hk); (try clear hi); (try clear ho0)))
   go_ret
   exact ⟨by first | rfl | (simp [errW_none, errW_some] <;> rfl) | (simp [*, errW_none, errW_some] <;> rfl), by repeat (first | (with_reducible first | exact HB.out | apply below_alloc | apply pw_below_drewN | apply below_drew1) | exact HB.out)⟩

/-- THE ONE PURE STATEMENT of laws_FnMtIsPattern: yours. -/
def laws_FnMtIsPattern.Pure : Prop := ∀ (a0 : ByteArray), a0.size ≤ 140737488351232 → ∃ k, laws_FnMtIsPattern.f k a0 = some true
theorem laws_FnMtIsPattern.walk (P : laws_FnMtIsPattern.Pure) (a0 : ByteArray) (w : World) (w0 : a0.size ≤ 140737488351232) :
  Calls Try.prog 3 #[.string a0] w fun e w' => e = .returned (.bool true) ∧ Below w.heap.size w w' := by
 obtain ⟨k, h⟩ := P a0 w0
 refine (laws_FnMtIsPattern.calls k a0 true w h).mono ?_
 rintro e w' ⟨rfl, hd⟩
 exact ⟨rfl, hd⟩

end Go.Proofs.Ytifcmhekpbfboaa.MFnMtIsPattern
