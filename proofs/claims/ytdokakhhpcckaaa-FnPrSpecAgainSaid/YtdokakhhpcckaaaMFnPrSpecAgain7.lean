/- What Go functions compute, as functions of numbers and lists, and the walks that show it. No condition. Written by a program (wip/tools/mprint.py) over the kit's print. -/
import Derived.Test.YtdokakhhpcckaaaMFnPrSpecAgain0
import Derived.Test.YtdokakhhpcckaaaMFnPrSpecAgain6
namespace Go.Proofs.Ytdokakhhpcckaaa.MFnPrSpecAgain
open Go.RowKit Go.Proofs.YtdokakhhpcckaaaW.PrintWords Go.Proofs.YtdokakhhpcckaaaW.PrintLast Go.Proofs.YtdokakhhpcckaaaW.PrintMore
attribute [local go_sem] max2_int min2_int max_two min_two max_three min_three max_four min_four   -- for this text's walks alone
set_option linter.unusedVariables false
set_option linter.unusedSimpArgs false

/-! ### pretty_Spec: function 11 -/
def pretty_Spec.f (k : Nat) (l0 : List Int) : Option (List Int) := (pretty_spec.f k l0 ([] : List Int)).bind fun t361 => (some t361)
theorem pretty_Spec.mono : ∀ a0 k, LeO (pretty_Spec.f k a0) (pretty_Spec.f (k + 1) a0) := by
 intro a0 k
 unfold pretty_Spec.f
 repeat' first
   | (with_reducible exact pretty_spec.mono _ _ _)
   | (with_reducible exact LeO.refl _)
   | (with_reducible exact LeO.none _)
   | (with_reducible refine LeO.ite ?_ ?_)
   | (with_reducible refine LeO.bind ?_ (fun _ => ?_))
   | exact pretty_spec.mono _ _ _
   | exact LeO.none _
   | refine LeO.ite ?_ ?_
   | refine LeO.bind ?_ (fun _ => ?_)
set_option maxHeartbeats 8000000 in
set_option maxRecDepth 100000 in
theorem pretty_Spec.calls (k : Nat) (A0 : Option Addr) (c0 : Nat) (l0 : List Int) (r : List Int) (w : World) (hr0 : Kd.C (Kd.int .u8) w A0 l0.length l0) (hc0 : l0.length ≤ c0) (h : pretty_Spec.f k l0 = some r) :
  Calls Try.prog 11 #[.slice A0 l0.length c0] w fun e w' => ∃ v0_ : Value, e = .returned (v0_) ∧ Kd.R (Kd.int .u8) 5 w' w.heap.size (fun _ => True) v0_ r ∧ Below w.heap.size w w' := by
 have HR0 := Aside0.mk hr0
 have HC0 := Aside0.mk hc0
 clear hr0 hc0
 have HB := Aside0.mk (Below.refl w.heap.size w)
 have H : ((pretty_spec.f k l0 ([] : List Int)).bind fun t361 => (some t361)) = some r := h
 clear h
 replace H := Option.bind_eq_some_iff.mp H
 obtain ⟨t361, A20, H⟩ := H
 replace H : (some t361) = some r := H
 have A2 := Aside0.mk A20
 clear A20
 obtain rfl := Option.some.inj H
 go_enter Try.func11, Try.ntmps11
 go_wp2_with (first | ((with_reducible refine gate_callee (f := 16) rfl ?_); refine goesL_ (some 4) rfl rfl Try.func16 (by kernel_rfl) rfl #[.slice A0 l0.length c0, .slice none 0 0] rfl (by (try simp only [List.map_toArray, List.map_cons, List.map_nil]); first | done | rfl | (simp only [List.length_drop, List.length_take]; rfl)) ?_; (refine (pretty_spec.calls k _ _ l0 (fun k_ => some k_ = (.slice none 0 0 : Value).ownBlock) (.slice none 0 0) ([] : List Int) t361 w _ ?side1 ?side2 ?side3 ?side4 A2.out).mono ?_); (case side1 => repeat (first | (with_reducible first | exact HB.out | apply below_alloc | apply pw_below_drewN | apply below_drew1) | exact HB.out)); (case side2 => exact Kd.C_kept_came (Kd.heap_int .u8) HR0.out (by repeat (first | (with_reducible first | exact HB.out | apply below_alloc | apply pw_below_drewN | apply below_drew1) | exact HB.out)) (fun k_ hs_ => (fun e_ => by simp [Value.ownBlock] at e_) hs_)); (case side3 => exact HC0.out); (case side4 => exact Kd.R_nil _ _ _ _ _); rintro e w3 ⟨v362, rfl, ho0, hb, hkp⟩; refine ⟨_, rfl, ?_⟩; have n0_ := Aside0.mk (Kd.R_mono (ok' := fun k_ => True) ho0 (fun k_ hk_ => trivial)); have n1_ := Aside0.mk (hb); clear HB; have HO363 := n0_; have HB := n1_; clear n0_ n1_; (try clear hb); (try clear hkp); (try clear ho0)))
 go_ret
 exact ⟨_, by first | rfl | (simp [errW_none, errW_some] <;> rfl) | (simp [*, errW_none, errW_some] <;> rfl), by (with_reducible repeat (first | apply Kd.R_alloc | apply Kd.R_drewN | apply Kd.R_drew)); exact HO363.out, by repeat (first | (with_reducible first | exact HB.out | apply below_alloc | apply pw_below_drewN | apply below_drew1) | exact HB.out)⟩

-- NOT PRINTED: function 5 (impl_PrSpec)

/-! ### gjson_ishex: function 37 -/
def gjson_ishex.f (a0 : Int) : Option (Bool) := if a0 ≥ 48 then (if a0 ≤ 57 then (some true) else (if a0 ≥ 97 then (if a0 ≤ 102 then (some true) else (if a0 ≥ 65 then (some (decide (a0 ≤ 70))) else (some false))) else (if a0 ≥ 65 then (some (decide (a0 ≤ 70))) else (some false)))) else (if a0 ≥ 97 then (if a0 ≤ 102 then (some true) else (if a0 ≥ 65 then (some (decide (a0 ≤ 70))) else (some false))) else (if a0 ≥ 65 then (some (decide (a0 ≤ 70))) else (some false)))
set_option maxHeartbeats 8000000 in
set_option maxRecDepth 100000 in
theorem gjson_ishex.calls (a0 : Int) (r : Bool) (w : World) (h : gjson_ishex.f a0 = some r) :
  Calls Try.prog 37 #[.int .u8 a0] w fun e w' => e = .returned (.bool r) ∧ Drawn0 w w' := by
 have H : (if a0 ≥ 48 then (if a0 ≤ 57 then (some true) else (if a0 ≥ 97 then (if a0 ≤ 102 then (some true) else (if a0 ≥ 65 then (some (decide (a0 ≤ 70))) else (some false))) else (if a0 ≥ 65 then (some (decide (a0 ≤ 70))) else (some false)))) else (if a0 ≥ 97 then (if a0 ≤ 102 then (some true) else (if a0 ≥ 65 then (some (decide (a0 ≤ 70))) else (some false))) else (if a0 ≥ 65 then (some (decide (a0 ≤ 70))) else (some false)))) = some r := h
 clear h
 by_cases c2 : a0 ≥ 48
 ·
  rw [if_pos c2] at H
  have c2b0 : decide (48 ≤ a0) = true := decide_eq_true c2
  clear c2
  by_cases c3 : a0 ≤ 57
  ·
   rw [if_pos c3] at H
   have c3b0 : decide (a0 ≤ 57) = true := decide_eq_true c3
   clear c3
   obtain rfl := Option.some.inj H
   go_enter Try.func37, Try.ntmps37
   go_wp2
   go_ret
   exact ⟨by first | rfl | (simp; done) | (simp [*]; done) | (simp; rw [Bool.eq_iff_iff]; simp; done), by repeat (first | exact Drawn0.refl _ | apply Drawn0.step)⟩
  ·
   rw [if_neg c3] at H
   have c3b0 : decide (a0 ≤ 57) = false := decide_eq_false c3
   clear c3
   by_cases c4 : a0 ≥ 97
   ·
    rw [if_pos c4] at H
    have c4b0 : decide (97 ≤ a0) = true := decide_eq_true c4
    clear c4
    by_cases c5 : a0 ≤ 102
    ·
     rw [if_pos c5] at H
     have c5b0 : decide (a0 ≤ 102) = true := decide_eq_true c5
     clear c5
     obtain rfl := Option.some.inj H
     go_enter Try.func37, Try.ntmps37
     go_wp2
     go_ret
     exact ⟨by first | rfl | (simp; done) | (simp [*]; done) | (simp; rw [Bool.eq_iff_iff]; simp; done), by repeat (first | exact Drawn0.refl _ | apply Drawn0.step)⟩
    ·
     rw [if_neg c5] at H
     have c5b0 : decide (a0 ≤ 102) = false := decide_eq_false c5
     clear c5
     by_cases c6 : a0 ≥ 65
     ·
      rw [if_pos c6] at H
      have c6b0 : decide (65 ≤ a0) = true := decide_eq_true c6
      clear c6
      obtain rfl := Option.some.inj H
      go_enter Try.func37, Try.ntmps37
      go_wp2
      go_ret
      exact ⟨by first | rfl | (simp; done) | (simp [*]; done) | (simp; rw [Bool.eq_iff_iff]; simp; done), by repeat (first | exact Drawn0.refl _ | apply Drawn0.step)⟩
     ·
      rw [if_neg c6] at H
      have c6b0 : decide (65 ≤ a0) = false := decide_eq_false c6
      clear c6
      obtain rfl := Option.some.inj H
      go_enter Try.func37, Try.ntmps37
      go_wp2
      go_ret
      exact ⟨by first | rfl | (simp; done) | (simp [*]; done) | (simp; rw [Bool.eq_iff_iff]; simp; done), by repeat (first | exact Drawn0.refl _ | apply Drawn0.step)⟩
   ·
    rw [if_neg c4] at H
    have c4b0 : decide (97 ≤ a0) = false := decide_eq_false c4
    clear c4
    by_cases c7 : a0 ≥ 65
    ·
     rw [if_pos c7] at H
     have c7b0 : decide (65 ≤ a0) = true := decide_eq_true c7
     clear c7
     obtain rfl := Option.some.inj H
     go_enter Try.func37, Try.ntmps37
     go_wp2
     go_ret
     exact ⟨by first | rfl | (simp; done) | (simp [*]; done) | (simp; rw [Bool.eq_iff_iff]; simp; done), by repeat (first | exact Drawn0.refl _ | apply Drawn0.step)⟩
    ·
     rw [if_neg c7] at H
     have c7b0 : decide (65 ≤ a0) = false := decide_eq_false c7
     clear c7
     obtain rfl := Option.some.inj H
     go_enter Try.func37, Try.ntmps37
     go_wp2
     go_ret
     exact ⟨by first | rfl | (simp; done) | (simp [*]; done) | (simp; rw [Bool.eq_iff_iff]; simp; done), by repeat (first | exact Drawn0.refl _ | apply Drawn0.step)⟩
 ·
  rw [if_neg c2] at H
  have c2b0 : decide (48 ≤ a0) = false := decide_eq_false c2
  clear c2
  by_cases c8 : a0 ≥ 97
  ·
   rw [if_pos c8] at H
   have c8b0 : decide (97 ≤ a0) = true := decide_eq_true c8
   clear c8
   by_cases c9 : a0 ≤ 102
   ·
    rw [if_pos c9] at H
    have c9b0 : decide (a0 ≤ 102) = true := decide_eq_true c9
    clear c9
    obtain rfl := Option.some.inj H
    go_enter Try.func37, Try.ntmps37
    go_wp2
    go_ret
    exact ⟨by first | rfl | (simp; done) | (simp [*]; done) | (simp; rw [Bool.eq_iff_iff]; simp; done), by repeat (first | exact Drawn0.refl _ | apply Drawn0.step)⟩
   ·
    rw [if_neg c9] at H
    have c9b0 : decide (a0 ≤ 102) = false := decide_eq_false c9
    clear c9
    by_cases c10 : a0 ≥ 65
    ·
     rw [if_pos c10] at H
     have c10b0 : decide (65 ≤ a0) = true := decide_eq_true c10
     clear c10
     obtain rfl := Option.some.inj H
     go_enter Try.func37, Try.ntmps37
     go_wp2
     go_ret
     exact ⟨by first | rfl | (simp; done) | (simp [*]; done) | (simp; rw [Bool.eq_iff_iff]; simp; done), by repeat (first | exact Drawn0.refl _ | apply Drawn0.step)⟩
    ·
     rw [if_neg c10] at H
     have c10b0 : decide (65 ≤ a0) = false := decide_eq_false c10
     clear c10
     obtain rfl := Option.some.inj H
     go_enter Try.func37, Try.ntmps37
     go_wp2
     go_ret
     exact ⟨by first | rfl | (simp; done) | (simp [*]; done) | (simp; rw [Bool.eq_iff_iff]; simp; done), by repeat (first | exact Drawn0.refl _ | apply Drawn0.step)⟩
  ·
   rw [if_neg c8] at H
   have c8b0 : decide (97 ≤ a0) = false := decide_eq_false c8
   clear c8
   by_cases c11 : a0 ≥ 65
   ·
    rw [if_pos c11] at H
    have c11b0 : decide (65 ≤ a0) = true := decide_eq_true c11
    clear c11
    obtain rfl := Option.some.inj H
    go_enter Try.func37, Try.ntmps37
    go_wp2
    go_ret
    exact ⟨by first | rfl | (simp; done) | (simp [*]; done) | (simp; rw [Bool.eq_iff_iff]; simp; done), by repeat (first | exact Drawn0.refl _ | apply Drawn0.step)⟩
   ·
    rw [if_neg c11] at H
    have c11b0 : decide (65 ≤ a0) = false := decide_eq_false c11
    clear c11
    obtain rfl := Option.some.inj H
    go_enter Try.func37, Try.ntmps37
    go_wp2
    go_ret
    exact ⟨by first | rfl | (simp; done) | (simp [*]; done) | (simp; rw [Bool.eq_iff_iff]; simp; done), by repeat (first | exact Drawn0.refl _ | apply Drawn0.step)⟩

/-! ### gjson_validstring: function 30 -/
mutual
def gjson_validstring.l0 : Nat → List Int → Int → Option (Int × Bool)
 | 0, _, _ => none
 | k + 1, x0, x1 => if x1 < (x0.length : Int) then (if 0 ≤ x1 then (if (rd x0 x1) < 32 then (some (x1, false)) else (if (rd x0 x1) = 92 then (if (wrap64 (x1 + 1)) = (x0.length : Int) then (some (wrap64 (x1 + 1), false)) else (if 0 ≤ (wrap64 (x1 + 1)) then (if (wrap64 (x1 + 1)) < (x0.length : Int) then (if (rd x0 (wrap64 (x1 + 1))) = 34 then (gjson_validstring.j1 k x0 (wrap64 (x1 + 1)) (rd x0 (wrap64 (x1 + 1))) ((rd x0 (wrap64 (x1 + 1))) == 34)) else (if (rd x0 (wrap64 (x1 + 1))) = 92 then (gjson_validstring.j1 k x0 (wrap64 (x1 + 1)) (rd x0 (wrap64 (x1 + 1))) ((rd x0 (wrap64 (x1 + 1))) == 92)) else (if (rd x0 (wrap64 (x1 + 1))) = 47 then (gjson_validstring.j1 k x0 (wrap64 (x1 + 1)) (rd x0 (wrap64 (x1 + 1))) ((rd x0 (wrap64 (x1 + 1))) == 47)) else (if (rd x0 (wrap64 (x1 + 1))) = 98 then (gjson_validstring.j1 k x0 (wrap64 (x1 + 1)) (rd x0 (wrap64 (x1 + 1))) ((rd x0 (wrap64 (x1 + 1))) == 98)) else (if (rd x0 (wrap64 (x1 + 1))) = 102 then (gjson_validstring.j1 k x0 (wrap64 (x1 + 1)) (rd x0 (wrap64 (x1 + 1))) ((rd x0 (wrap64 (x1 + 1))) == 102)) else (if (rd x0 (wrap64 (x1 + 1))) = 110 then (gjson_validstring.j1 k x0 (wrap64 (x1 + 1)) (rd x0 (wrap64 (x1 + 1))) ((rd x0 (wrap64 (x1 + 1))) == 110)) else (if (rd x0 (wrap64 (x1 + 1))) = 114 then (gjson_validstring.j1 k x0 (wrap64 (x1 + 1)) (rd x0 (wrap64 (x1 + 1))) ((rd x0 (wrap64 (x1 + 1))) == 114)) else (gjson_validstring.j1 k x0 (wrap64 (x1 + 1)) (rd x0 (wrap64 (x1 + 1))) ((rd x0 (wrap64 (x1 + 1))) == 116))))))))) else (none)) else (none))) else (if (rd x0 x1) = 34 then (some (wrap64 (x1 + 1), true)) else (gjson_validstring.l0 k x0 (wrap64 (x1 + 1)))))) else (none)) else (some (x1, false))
def gjson_validstring.j1 : Nat → List Int → Int → Int → Bool → Option (Int × Bool)
 | 0, _, _, _, _ => none
 | k + 1, x0, x1, x33, x35 => if x35 = true then (gjson_validstring.l0 k x0 (wrap64 (x1 + 1))) else (if x33 = 117 then (gjson_validstring.l1 k x0 x1 0) else (some (x1, false)))
def gjson_validstring.l1 : Nat → List Int → Int → Int → Option (Int × Bool)
 | 0, _, _, _ => none
 | k + 1, x0, x1, x46 => if x46 < 4 then (if (wrap64 (x1 + 1)) ≥ (x0.length : Int) then (some (wrap64 (x1 + 1), false)) else (if 0 ≤ (wrap64 (x1 + 1)) then (if (wrap64 (x1 + 1)) < (x0.length : Int) then ((gjson_ishex.f (rd x0 (wrap64 (x1 + 1)))).bind fun t368 => (if t368 = true then (gjson_validstring.l1 k x0 (wrap64 (x1 + 1)) (wrap64 (x46 + 1))) else (some (wrap64 (x1 + 1), false)))) else (none)) else (none))) else (gjson_validstring.l0 k x0 (wrap64 (x1 + 1)))
end
def gjson_validstring.f (k : Nat) (l0 : List Int) (a1 : Int) : Option (Int × Bool) := gjson_validstring.l0 k l0 a1
theorem gjson_validstring.mono_l : ∀ k, (∀ y0 y1, LeO (gjson_validstring.l0 k y0 y1) (gjson_validstring.l0 (k + 1) y0 y1)) ∧ (∀ y0 y1 y2 y3, LeO (gjson_validstring.j1 k y0 y1 y2 y3) (gjson_validstring.j1 (k + 1) y0 y1 y2 y3)) ∧ (∀ y0 y1 y2, LeO (gjson_validstring.l1 k y0 y1 y2) (gjson_validstring.l1 (k + 1) y0 y1 y2))
 | 0 => ⟨fun _ _ r h => by simp [gjson_validstring.l0] at h, fun _ _ _ _ r h => by simp [gjson_validstring.j1] at h, fun _ _ _ r h => by simp [gjson_validstring.l1] at h⟩
 | k + 1 => by
  obtain ⟨ih0, ih1, ih2⟩ := gjson_validstring.mono_l k
  refine ⟨?_, ?_, ?_⟩
  ·
   intro y0 y1
   unfold gjson_validstring.l0
   repeat' first
   | (with_reducible exact ih0 _ _)
   | (with_reducible exact ih1 _ _ _ _)
   | (with_reducible exact ih2 _ _ _)
   | (with_reducible exact LeO.refl _)
   | (with_reducible exact LeO.none _)
   | (with_reducible refine LeO.ite ?_ ?_)
   | (with_reducible refine LeO.bind ?_ (fun _ => ?_))
   | exact ih0 _ _
   | exact ih1 _ _ _ _
   | exact ih2 _ _ _
   | exact LeO.none _
   | refine LeO.ite ?_ ?_
   | refine LeO.bind ?_ (fun _ => ?_)
  ·
   intro y0 y1 y2 y3
   unfold gjson_validstring.j1
   repeat' first
   | (with_reducible exact ih0 _ _)
   | (with_reducible exact ih1 _ _ _ _)
   | (with_reducible exact ih2 _ _ _)
   | (with_reducible exact LeO.refl _)
   | (with_reducible exact LeO.none _)
   | (with_reducible refine LeO.ite ?_ ?_)
   | (with_reducible refine LeO.bind ?_ (fun _ => ?_))
   | exact ih0 _ _
   | exact ih1 _ _ _ _
   | exact ih2 _ _ _
   | exact LeO.none _
   | refine LeO.ite ?_ ?_
   | refine LeO.bind ?_ (fun _ => ?_)
  ·
   intro y0 y1 y2
   unfold gjson_validstring.l1
   repeat' first
   | (with_reducible exact ih0 _ _)
   | (with_reducible exact ih1 _ _ _ _)
   | (with_reducible exact ih2 _ _ _)
   | (with_reducible exact LeO.refl _)
   | (with_reducible exact LeO.none _)
   | (with_reducible refine LeO.ite ?_ ?_)
   | (with_reducible refine LeO.bind ?_ (fun _ => ?_))
   | exact ih0 _ _
   | exact ih1 _ _ _ _
   | exact ih2 _ _ _
   | exact LeO.none _
   | refine LeO.ite ?_ ?_
   | refine LeO.bind ?_ (fun _ => ?_)
theorem gjson_validstring.mono : ∀ a0 a1 k, LeO (gjson_validstring.f k a0 a1) (gjson_validstring.f (k + 1) a0 a1) := by
 intro a0 a1 k
 obtain ⟨ih0, ih1, ih2⟩ := gjson_validstring.mono_l k
 unfold gjson_validstring.f
 repeat' first
   | (with_reducible exact ih0 _ _)
   | (with_reducible exact ih1 _ _ _ _)
   | (with_reducible exact ih2 _ _ _)
   | (with_reducible exact LeO.refl _)
   | (with_reducible exact LeO.none _)
   | (with_reducible refine LeO.ite ?_ ?_)
   | (with_reducible refine LeO.bind ?_ (fun _ => ?_))
   | exact ih0 _ _
   | exact ih1 _ _ _ _
   | exact ih2 _ _ _
   | exact LeO.none _
   | refine LeO.ite ?_ ?_
   | refine LeO.bind ?_ (fun _ => ?_)
set_option maxHeartbeats 8000000 in
set_option maxRecDepth 100000 in
theorem gjson_validstring.calls (k : Nat) (A0 : Option Addr) (c0 : Nat) (l0 : List Int) (a1 : Int) (r1 : Int) (r2 : Bool) (w : World) (hr0 : Kd.C (Kd.int .u8) w A0 l0.length l0) (hc0 : l0.length ≤ c0) (h : gjson_validstring.f k l0 a1 = some (r1, r2)) :
  Calls Try.prog 30 #[.slice A0 l0.length c0, .int .i64 a1] w fun e w' => e = .returned (.tuple #[.int .i64 r1, .bool r2]) ∧ Drawn0 w w' := by
 have HR0 := Aside0.mk hr0
 have HC0 := Aside0.mk hc0
 clear hr0 hc0
 have H : (gjson_validstring.l0 k l0 a1) = some (r1, r2) := h
 clear h
 have H' := Aside0.mk H
 clear H
 go_enter Try.func30, Try.ntmps30
 go_wp2
 try simp only [Act.put, List.setIfInBounds_toArray, List.set_cons_succ, List.set_cons_zero]
 go_loopg [1] k (fun kq v1 w' => ∃ (x1_1 : Int), v1 = .int .i64 x1_1 ∧ Aside0 (gjson_validstring.l0 kq l0 x1_1 = some (r1, r2)) ∧ Aside0 (kq ≤ k) ∧ Drawn0 w w')
 case atStart => exact ⟨(a1), (by first | rfl | (simp; done) | (simp [*]; done) | (simp; rw [Bool.eq_iff_iff]; simp; done)), H', ⟨Nat.le_refl _⟩, by repeat (first | exact Drawn0.refl _ | apply Drawn0.step)⟩
 case round =>
  clear H'
  (try clear p2)
  obtain ⟨x1_1, rfl, HA, HK1, ⟨m1, rfl⟩⟩ := hrel
  cases gk with
  | zero => exact absurd HA.out (by simp [gjson_validstring.l0])
  | succ k1 =>
   have H := HA.out
   clear HA
   simp only [gjson_validstring.l0] at H
   by_cases c3 : x1_1 < (l0.length : Int)
   ·
    rw [if_pos c3] at H
    have c3b0 : decide (x1_1 < (l0.length : Int)) = true := decide_eq_true c3
    clear c3
    by_cases c4 : 0 ≤ x1_1
    ·
     rw [if_pos c4] at H
     have c4b0 : decide (0 ≤ x1_1) = true := decide_eq_true c4
     clear c4
     by_cases c5 : (rd l0 x1_1) < 32
     ·
      rw [if_pos c5] at H
      have c5b0 : decide ((rd l0 x1_1) < 32) = true := decide_eq_true c5
      clear c5
      simp only [Option.some.injEq, Prod.mk.injEq] at H
      obtain ⟨rfl, rfl⟩ := H
      have p364 : 0 ≤ (x1_1 : Int) := of_decide_eq_true (by first | (with_reducible assumption) | assumption)
      have q364 : x1_1 < (l0.length : Int) := of_decide_eq_true (by first | (with_reducible assumption) | assumption)
      obtain ⟨ad364, e364, hx364_0⟩ := Kd.at_int HR0.out x1_1 p364 q364
      cases e364
      replace p364 := eq_true p364
      replace q364 := eq_true q364
      go_wp2
      go_ret2
      exact ⟨by first | rfl | (simp; done) | (simp [*]; done) | (simp; rw [Bool.eq_iff_iff]; simp; done), by repeat (first | exact Drawn0.refl _ | apply Drawn0.step)⟩
     ·
      rw [if_neg c5] at H
      have c5b0 : decide ((rd l0 x1_1) < 32) = false := decide_eq_false c5
      clear c5
      by_cases c6 : (rd l0 x1_1) = 92
      ·
       rw [if_pos c6] at H
       have c6b0 : ((rd l0 x1_1) == 92) = true := beq_iff_eq.mpr c6
       have c6b1 : ((rd l0 x1_1) != 92) = false := bne_eq_false_iff_eq.mpr c6
       clear c6
       by_cases c7 : (wrap64 (x1_1 + 1)) = (l0.length : Int)
       ·
        rw [if_pos c7] at H
        have c7b0 : ((wrap64 (x1_1 + 1)) == (l0.length : Int)) = true := beq_iff_eq.mpr c7
        have c7b1 : ((wrap64 (x1_1 + 1)) != (l0.length : Int)) = false := bne_eq_false_iff_eq.mpr c7
        clear c7
        simp only [Option.some.injEq, Prod.mk.injEq] at H
        obtain ⟨rfl, rfl⟩ := H
        have p364 : 0 ≤ (x1_1 : Int) := of_decide_eq_true (by first | (with_reducible assumption) | assumption)
        have q364 : x1_1 < (l0.length : Int) := of_decide_eq_true (by first | (with_reducible assumption) | assumption)
        obtain ⟨ad364, e364, hx364_0⟩ := Kd.at_int HR0.out x1_1 p364 q364
        cases e364
        replace p364 := eq_true p364
        replace q364 := eq_true q364
        have p365 : 0 ≤ (x1_1 : Int) := of_decide_eq_true (by first | (with_reducible assumption) | assumption)
        have q365 : x1_1 < (l0.length : Int) := of_decide_eq_true (by first | (with_reducible assumption) | assumption)
        obtain ⟨ad365, e365, hx365_0⟩ := Kd.at_int HR0.out x1_1 p365 q365
        obtain rfl : ad364 = ad365 := (by injection e365)
        replace p365 := eq_true p365
        replace q365 := eq_true q365
        go_wp2
        go_ret2
        exact ⟨by first | rfl | (simp; done) | (simp [*]; done) | (simp; rw [Bool.eq_iff_iff]; simp; done), by repeat (first | exact Drawn0.refl _ | apply Drawn0.step)⟩
       ·
        rw [if_neg c7] at H
        have c7b0 : ((wrap64 (x1_1 + 1)) == (l0.length : Int)) = false := beq_eq_false_iff_ne.mpr c7
        have c7b1 : ((wrap64 (x1_1 + 1)) != (l0.length : Int)) = true := bne_iff_ne.mpr c7
        obtain ⟨ji8, hji8⟩ : ∃ j_ : Int, (wrap64 (x1_1 + 1)) = j_ := ⟨_, rfl⟩
        replace H : (if 0 ≤ (ji8) then (if (ji8) < (l0.length : Int) then (if (rd l0 (ji8)) = 34 then (gjson_validstring.j1 k1 l0 ji8 (rd l0 (ji8)) ((rd l0 (ji8)) == 34)) else (if (rd l0 (ji8)) = 92 then (gjson_validstring.j1 k1 l0 ji8 (rd l0 (ji8)) ((rd l0 (ji8)) == 92)) else (if (rd l0 (ji8)) = 47 then (gjson_validstring.j1 k1 l0 ji8 (rd l0 (ji8)) ((rd l0 (ji8)) == 47)) else (if (rd l0 (ji8)) = 98 then (gjson_validstring.j1 k1 l0 ji8 (rd l0 (ji8)) ((rd l0 (ji8)) == 98)) else (if (rd l0 (ji8)) = 102 then (gjson_validstring.j1 k1 l0 ji8 (rd l0 (ji8)) ((rd l0 (ji8)) == 102)) else (if (rd l0 (ji8)) = 110 then (gjson_validstring.j1 k1 l0 ji8 (rd l0 (ji8)) ((rd l0 (ji8)) == 110)) else (if (rd l0 (ji8)) = 114 then (gjson_validstring.j1 k1 l0 ji8 (rd l0 (ji8)) ((rd l0 (ji8)) == 114)) else (gjson_validstring.j1 k1 l0 ji8 (rd l0 (ji8)) ((rd l0 (ji8)) == 116))))))))) else (none)) else (none)) = some (r1, r2) := by first | (rw [hji8] at H; exact H) | (simp only [hji8] at H ⊢; exact H)
        (try rw [hji8] at c7b0)
        (try rw [hji8] at c7b1)
        have hji8w : (IntKind.i64.wrap (x1_1 + 1)) = ji8 := (i64_w _).trans hji8
        by_cases c9 : 0 ≤ (ji8)
        ·
         rw [if_pos c9] at H
         have c9b0 : decide (0 ≤ (ji8)) = true := decide_eq_true c9
         clear c9
         by_cases c10 : (ji8) < (l0.length : Int)
         ·
          rw [if_pos c10] at H
          have c10b0 : decide ((ji8) < (l0.length : Int)) = true := decide_eq_true c10
          clear c10
          have HC11 := Aside0.mk H
          clear H
          have p364 : 0 ≤ (x1_1 : Int) := of_decide_eq_true (by first | (with_reducible assumption) | assumption)
          have q364 : x1_1 < (l0.length : Int) := of_decide_eq_true (by first | (with_reducible assumption) | assumption)
          obtain ⟨ad364, e364, hx364_0⟩ := Kd.at_int HR0.out x1_1 p364 q364
          cases e364
          replace p364 := eq_true p364
          replace q364 := eq_true q364
          have p365 : 0 ≤ (x1_1 : Int) := of_decide_eq_true (by first | (with_reducible assumption) | assumption)
          have q365 : x1_1 < (l0.length : Int) := of_decide_eq_true (by first | (with_reducible assumption) | assumption)
          obtain ⟨ad365, e365, hx365_0⟩ := Kd.at_int HR0.out x1_1 p365 q365
          obtain rfl : ad364 = ad365 := (by injection e365)
          replace p365 := eq_true p365
          replace q365 := eq_true q365
          have p366 : 0 ≤ ((ji8) : Int) := of_decide_eq_true (by first | (with_reducible assumption) | assumption)
          have q366 : (ji8) < (l0.length : Int) := of_decide_eq_true (by first | (with_reducible assumption) | assumption)
          obtain ⟨ad366, e366, hx366_0⟩ := Kd.at_int HR0.out (ji8) p366 q366
          obtain rfl : ad364 = ad366 := (by injection e366)
          replace p366 := eq_true p366
          replace q366 := eq_true q366
          go_upto_if 35 with (fail)
          go_cut [35] (fun v35 wc => ∃ (kq : Nat) (x35_10 : Bool), v35 = .bool x35_10 ∧ Aside0 (gjson_validstring.j1 kq l0 ji8 (rd l0 (ji8)) x35_10 = some (r1, r2)) ∧ Aside0 (kq ≤ k1) ∧ Drawn0 w wc)
          case first =>
           have H := HC11.out
           clear HC11
           by_cases c12 : (rd l0 (ji8)) = 34
           ·
            rw [if_pos c12] at H
            have c12b0 : ((rd l0 (ji8)) == 34) = true := beq_iff_eq.mpr c12
            have c12b1 : ((rd l0 (ji8)) != 34) = false := bne_eq_false_iff_eq.mpr c12
            clear c12
            (first | rw [c12b0] | (simp only [i64_w, i32_w]; rw [c12b0]) | skip)
            have H' := Aside0.mk H
            clear H
            go_wp2
            go_meet
            case rel => exact ⟨_, (((rd l0 (ji8)) == 34)), (by first | exact congrArg Value.bool (Eq.symm (by assumption)) | rfl | (simp; done) | (simp only [← hji8] <;> (first | rfl | (simp; done))) | (simp [*]; done)), H', ⟨by have := HK1.out; first | omega | exact Nat.le_refl _⟩, by repeat (first | exact Drawn0.refl _ | apply Drawn0.step)⟩
           ·
            rw [if_neg c12] at H
            have c12b0 : ((rd l0 (ji8)) == 34) = false := beq_eq_false_iff_ne.mpr c12
            have c12b1 : ((rd l0 (ji8)) != 34) = true := bne_iff_ne.mpr c12
            (first | rw [c12b0] | (simp only [i64_w, i32_w]; rw [c12b0]) | skip)
            by_cases c13 : (rd l0 (ji8)) = 92
            ·
             rw [if_pos c13] at H
             have c13b0 : ((rd l0 (ji8)) == 92) = true := beq_iff_eq.mpr c13
             have c13b1 : ((rd l0 (ji8)) != 92) = false := bne_eq_false_iff_eq.mpr c13
             clear c13
             have H' := Aside0.mk H
             clear H
             go_wp2
             go_meet
             case rel => exact ⟨_, (((rd l0 (ji8)) == 92)), (by first | exact congrArg Value.bool (Eq.symm (by assumption)) | rfl | (simp; done) | (simp only [← hji8] <;> (first | rfl | (simp; done))) | (simp [*]; done)), H', ⟨by have := HK1.out; first | omega | exact Nat.le_refl _⟩, by repeat (first | exact Drawn0.refl _ | apply Drawn0.step)⟩
            ·
             rw [if_neg c13] at H
             have c13b0 : ((rd l0 (ji8)) == 92) = false := beq_eq_false_iff_ne.mpr c13
             have c13b1 : ((rd l0 (ji8)) != 92) = true := bne_iff_ne.mpr c13
             by_cases c14 : (rd l0 (ji8)) = 47
             ·
              rw [if_pos c14] at H
              have c14b0 : ((rd l0 (ji8)) == 47) = true := beq_iff_eq.mpr c14
              have c14b1 : ((rd l0 (ji8)) != 47) = false := bne_eq_false_iff_eq.mpr c14
              clear c14
              have H' := Aside0.mk H
              clear H
              go_wp2
              go_meet
              case rel => exact ⟨_, (((rd l0 (ji8)) == 47)), (by first | exact congrArg Value.bool (Eq.symm (by assumption)) | rfl | (simp; done) | (simp only [← hji8] <;> (first | rfl | (simp; done))) | (simp [*]; done)), H', ⟨by have := HK1.out; first | omega | exact Nat.le_refl _⟩, by repeat (first | exact Drawn0.refl _ | apply Drawn0.step)⟩
             ·
              rw [if_neg c14] at H
              have c14b0 : ((rd l0 (ji8)) == 47) = false := beq_eq_false_iff_ne.mpr c14
              have c14b1 : ((rd l0 (ji8)) != 47) = true := bne_iff_ne.mpr c14
              by_cases c15 : (rd l0 (ji8)) = 98
              ·
               rw [if_pos c15] at H
               have c15b0 : ((rd l0 (ji8)) == 98) = true := beq_iff_eq.mpr c15
               have c15b1 : ((rd l0 (ji8)) != 98) = false := bne_eq_false_iff_eq.mpr c15
               clear c15
               have H' := Aside0.mk H
               clear H
               go_wp2
               go_meet
               case rel => exact ⟨_, (((rd l0 (ji8)) == 98)), (by first | exact congrArg Value.bool (Eq.symm (by assumption)) | rfl | (simp; done) | (simp only [← hji8] <;> (first | rfl | (simp; done))) | (simp [*]; done)), H', ⟨by have := HK1.out; first | omega | exact Nat.le_refl _⟩, by repeat (first | exact Drawn0.refl _ | apply Drawn0.step)⟩
              ·
               rw [if_neg c15] at H
               have c15b0 : ((rd l0 (ji8)) == 98) = false := beq_eq_false_iff_ne.mpr c15
               have c15b1 : ((rd l0 (ji8)) != 98) = true := bne_iff_ne.mpr c15
               by_cases c16 : (rd l0 (ji8)) = 102
               ·
                rw [if_pos c16] at H
                have c16b0 : ((rd l0 (ji8)) == 102) = true := beq_iff_eq.mpr c16
                have c16b1 : ((rd l0 (ji8)) != 102) = false := bne_eq_false_iff_eq.mpr c16
                clear c16
                have H' := Aside0.mk H
                clear H
                go_wp2
                go_meet
                case rel => exact ⟨_, (((rd l0 (ji8)) == 102)), (by first | exact congrArg Value.bool (Eq.symm (by assumption)) | rfl | (simp; done) | (simp only [← hji8] <;> (first | rfl | (simp; done))) | (simp [*]; done)), H', ⟨by have := HK1.out; first | omega | exact Nat.le_refl _⟩, by repeat (first | exact Drawn0.refl _ | apply Drawn0.step)⟩
               ·
                rw [if_neg c16] at H
                have c16b0 : ((rd l0 (ji8)) == 102) = false := beq_eq_false_iff_ne.mpr c16
                have c16b1 : ((rd l0 (ji8)) != 102) = true := bne_iff_ne.mpr c16
                by_cases c17 : (rd l0 (ji8)) = 110
                ·
                 rw [if_pos c17] at H
                 have c17b0 : ((rd l0 (ji8)) == 110) = true := beq_iff_eq.mpr c17
                 have c17b1 : ((rd l0 (ji8)) != 110) = false := bne_eq_false_iff_eq.mpr c17
                 clear c17
                 have H' := Aside0.mk H
                 clear H
                 go_wp2
                 go_meet
                 case rel => exact ⟨_, (((rd l0 (ji8)) == 110)), (by first | exact congrArg Value.bool (Eq.symm (by assumption)) | rfl | (simp; done) | (simp only [← hji8] <;> (first | rfl | (simp; done))) | (simp [*]; done)), H', ⟨by have := HK1.out; first | omega | exact Nat.le_refl _⟩, by repeat (first | exact Drawn0.refl _ | apply Drawn0.step)⟩
                ·
                 rw [if_neg c17] at H
                 have c17b0 : ((rd l0 (ji8)) == 110) = false := beq_eq_false_iff_ne.mpr c17
                 have c17b1 : ((rd l0 (ji8)) != 110) = true := bne_iff_ne.mpr c17
                 by_cases c18 : (rd l0 (ji8)) = 114
                 ·
                  rw [if_pos c18] at H
                  have c18b0 : ((rd l0 (ji8)) == 114) = true := beq_iff_eq.mpr c18
                  have c18b1 : ((rd l0 (ji8)) != 114) = false := bne_eq_false_iff_eq.mpr c18
                  clear c18
                  have H' := Aside0.mk H
                  clear H
                  go_wp2
                  go_meet
                  case rel => exact ⟨_, (((rd l0 (ji8)) == 114)), (by first | exact congrArg Value.bool (Eq.symm (by assumption)) | rfl | (simp; done) | (simp only [← hji8] <;> (first | rfl | (simp; done))) | (simp [*]; done)), H', ⟨by have := HK1.out; first | omega | exact Nat.le_refl _⟩, by repeat (first | exact Drawn0.refl _ | apply Drawn0.step)⟩
                 ·
                  rw [if_neg c18] at H
                  have c18b0 : ((rd l0 (ji8)) == 114) = false := beq_eq_false_iff_ne.mpr c18
                  have c18b1 : ((rd l0 (ji8)) != 114) = true := bne_iff_ne.mpr c18
                  have H' := Aside0.mk H
                  clear H
                  go_wp2
                  go_meet
                  case rel => exact ⟨_, (((rd l0 (ji8)) == 116)), (by first | exact congrArg Value.bool (Eq.symm (by assumption)) | rfl | (simp; done) | (simp only [← hji8] <;> (first | rfl | (simp; done))) | (simp [*]; done)), H', ⟨by have := HK1.out; first | omega | exact Nat.le_refl _⟩, by repeat (first | exact Drawn0.refl _ | apply Drawn0.step)⟩
          case rest =>
           clear HC11
           (try clear c1); (try clear p2); (try clear c3); (try clear c3b0); (try clear p3); (try clear q3); (try clear hx3); (try clear c4); (try clear c4b0); (try clear c5); (try clear c5b0); (try clear c6); (try clear c6b0); (try clear c6b1); (try clear p6); (try clear c7); (try clear c7b0); (try clear c7b1); (try clear c9); (try clear c9b0); (try clear c10); (try clear c10b0); (try clear c12); (try clear c12b0); (try clear c12b1); (try clear c13); (try clear c13b0); (try clear c13b1); (try clear c14); (try clear c14b0); (try clear c14b1); (try clear c15); (try clear c15b0); (try clear c15b1); (try clear c16); (try clear c16b0); (try clear c16b1); (try clear c17); (try clear c17b0); (try clear c17b1); (try clear c18); (try clear c18b0); (try clear c18b1); (try clear hx364_0); (try clear hx365_0); (try clear hx366_0); (try clear p2); (try clear p364); (try clear p365); (try clear p366); (try clear q364); (try clear q365); (try clear q366)
           obtain ⟨kq, x35_10, rfl, HA, HJ10, ⟨mc10, rfl⟩⟩ := hcut
           cases kq with
           | zero => exact absurd HA.out (by simp [gjson_validstring.j1])
           | succ kj10 =>
            have H := HA.out
            clear HA
            simp only [gjson_validstring.j1] at H
            by_cases c19 : x35_10 = true
            ·
             subst c19
             have H1 : (gjson_validstring.l0 kj10 l0 (wrap64 (ji8 + 1))) = some (r1, r2) := by rw [if_pos rfl] at H; exact H
             clear H
             have H := H1
             clear H1
             have H' := Aside0.mk H
             clear H
             go_wp2
             go_roundg kj10
             case measure => have := HK1.out; have := HJ10.out; omega
             case rel => exact ⟨(wrap64 (ji8 + 1)), (by first | rfl | (simp; done) | (simp only [← hji8] <;> (first | rfl | (simp; done))) | (simp [*]; done)), H', ⟨by have := HK1.out; have := HJ10.out; omega⟩, by repeat (first | exact Drawn0.refl _ | apply Drawn0.step)⟩
            ·
             replace c19 := Bool.eq_false_iff.mpr c19
             subst c19
             have H1 : (if (rd l0 (ji8)) = 117 then (gjson_validstring.l1 kj10 l0 ji8 0) else (some (ji8, false))) = some (r1, r2) := by rw [if_neg (show ¬ (false = true) by decide)] at H; exact H
             clear H
             have H := H1
             clear H1
             by_cases c20 : (rd l0 (ji8)) = 117
             ·
              rw [if_pos c20] at H
              have c20b0 : ((rd l0 (ji8)) == 117) = true := beq_iff_eq.mpr c20
              have c20b1 : ((rd l0 (ji8)) != 117) = false := bne_eq_false_iff_eq.mpr c20
              clear c20
              have H' := Aside0.mk H
              clear H
              go_wp2
              try simp only [Act.put, List.setIfInBounds_toArray, List.set_cons_succ, List.set_cons_zero]
              go_loopg [1, 46] kj10 (fun kq v1 v46 w' => ∃ (x1_3 : Int) (x46_3 : Int), v1 = .int .i64 x1_3 ∧ v46 = .int .i64 x46_3 ∧ Aside0 (gjson_validstring.l1 kq l0 x1_3 x46_3 = some (r1, r2)) ∧ Aside0 (kq ≤ kj10) ∧ Drawn0 w w')
              case atStart => exact ⟨(ji8), (0), (by first | rfl | (simp; done) | (simp only [← hji8] <;> (first | rfl | (simp; done))) | (simp [*]; done)), (by first | rfl | (simp; done) | (simp [*]; done) | (simp; rw [Bool.eq_iff_iff]; simp; done)), H', ⟨Nat.le_refl _⟩, by repeat (first | exact Drawn0.refl _ | apply Drawn0.step)⟩
              case round =>
               clear H'
               (try clear c1); (try clear c2); (try clear p2); (try clear c3); (try clear c3b0); (try clear p3); (try clear q3); (try clear hx3); (try clear c4); (try clear c4b0); (try clear c5); (try clear c5b0); (try clear c6); (try clear c6b0); (try clear c6b1); (try clear p6); (try clear c7); (try clear c7b0); (try clear c7b1); (try clear c9); (try clear c9b0); (try clear c10); (try clear c10b0); (try clear c12); (try clear c12b0); (try clear c12b1); (try clear c13); (try clear c13b0); (try clear c13b1); (try clear c14); (try clear c14b0); (try clear c14b1); (try clear c15); (try clear c15b0); (try clear c15b1); (try clear c16); (try clear c16b0); (try clear c16b1); (try clear c17); (try clear c17b0); (try clear c17b1); (try clear c18); (try clear c18b0); (try clear c18b1); (try clear c19); (try clear c20); (try clear c20b0); (try clear c20b1); (try clear hx364_0); (try clear hx365_0); (try clear hx366_0); (try clear p2); (try clear p3); (try clear p364); (try clear p365); (try clear p366); (try clear p6); (try clear q3); (try clear q364); (try clear q365); (try clear q366)
               obtain ⟨x1_3, x46_3, rfl, rfl, HA, HK3, ⟨m3, rfl⟩⟩ := hrel
               cases gk with
               | zero => exact absurd HA.out (by simp [gjson_validstring.l1])
               | succ k3 =>
                have H := HA.out
                clear HA
                simp only [gjson_validstring.l1] at H
                by_cases c21 : x46_3 < 4
                ·
                 rw [if_pos c21] at H
                 have c21b0 : decide (x46_3 < 4) = true := decide_eq_true c21
                 clear c21
                 by_cases c22 : (wrap64 (x1_3 + 1)) ≥ (l0.length : Int)
                 ·
                  rw [if_pos c22] at H
                  have c22b0 : decide ((l0.length : Int) ≤ (wrap64 (x1_3 + 1))) = true := decide_eq_true c22
                  clear c22
                  simp only [Option.some.injEq, Prod.mk.injEq] at H
                  obtain ⟨rfl, rfl⟩ := H
                  go_wp2
                  go_ret2
                  exact ⟨by first | rfl | (simp; done) | (simp only [← hji8] <;> (first | rfl | (simp; done))) | (simp [*]; done), by repeat (first | exact Drawn0.refl _ | apply Drawn0.step)⟩
                 ·
                  rw [if_neg c22] at H
                  have c22b0 : decide ((l0.length : Int) ≤ (wrap64 (x1_3 + 1))) = false := decide_eq_false c22
                  clear c22
                  obtain ⟨ji23, hji23⟩ : ∃ j_ : Int, (wrap64 (x1_3 + 1)) = j_ := ⟨_, rfl⟩
                  replace H : (if 0 ≤ (ji23) then (if (ji23) < (l0.length : Int) then ((gjson_ishex.f (rd l0 (ji23))).bind fun t368 => (if t368 = true then (gjson_validstring.l1 k3 l0 ji23 (wrap64 (x46_3 + 1))) else (some (ji23, false)))) else (none)) else (none)) = some (r1, r2) := by first | (rw [hji23] at H; exact H) | (simp only [hji23] at H ⊢; exact H)
                  (try rw [hji23] at c22b0)
                  have hji23w : (IntKind.i64.wrap (x1_3 + 1)) = ji23 := (i64_w _).trans hji23
                  by_cases c24 : 0 ≤ (ji23)
                  ·
                   rw [if_pos c24] at H
                   have c24b0 : decide (0 ≤ (ji23)) = true := decide_eq_true c24
                   clear c24
                   by_cases c25 : (ji23) < (l0.length : Int)
                   ·
                    rw [if_pos c25] at H
                    have c25b0 : decide ((ji23) < (l0.length : Int)) = true := decide_eq_true c25
                    clear c25
                    replace H := Option.bind_eq_some_iff.mp H
                    obtain ⟨t368, A260, H⟩ := H
                    replace H : (if t368 = true then (gjson_validstring.l1 k3 l0 ji23 (wrap64 (x46_3 + 1))) else (some (ji23, false))) = some (r1, r2) := H
                    have A26 := Aside0.mk A260
                    clear A260
                    by_cases c27 : t368 = true
                    ·
                     subst c27
                     have H1 : (gjson_validstring.l1 k3 l0 ji23 (wrap64 (x46_3 + 1))) = some (r1, r2) := by rw [if_pos rfl] at H; exact H
                     clear H
                     have H := H1
                     clear H1
                     have H' := Aside0.mk H
                     clear H
                     have p367 : 0 ≤ ((ji23) : Int) := of_decide_eq_true (by first | (with_reducible assumption) | assumption)
                     have q367 : (ji23) < (l0.length : Int) := of_decide_eq_true (by first | (with_reducible assumption) | assumption)
                     obtain ⟨ad367, e367, hx367_0⟩ := Kd.at_int HR0.out (ji23) p367 q367
                     obtain rfl : ad364 = ad367 := (by injection e367)
                     replace p367 := eq_true p367
                     replace q367 := eq_true q367
                     go_wp2_with (first | (go_at_call 37; (with_reducible refine (gjson_ishex.calls (rd l0 (ji23)) true _ A26.out).mono ?_); rintro e w' ⟨rfl, ⟨nd, rfl⟩⟩))
                     go_roundg k3
                     case measure => have := HK1.out; have := HJ10.out; have := HK3.out; omega
                     case rel => exact ⟨(ji23), (wrap64 (x46_3 + 1)), (by first | rfl | (simp; done) | (simp only [← hji23] <;> (first | rfl | simp)) | (simp [*]; done)), (by first | rfl | (simp; done) | (simp [*]; done) | (simp; rw [Bool.eq_iff_iff]; simp; done)), H', ⟨by have := HK1.out; have := HJ10.out; have := HK3.out; omega⟩, by repeat (first | exact Drawn0.refl _ | apply Drawn0.step)⟩
                    ·
                     replace c27 := Bool.eq_false_iff.mpr c27
                     subst c27
                     have H1 : (some (ji23, false)) = some (r1, r2) := by rw [if_neg (show ¬ (false = true) by decide)] at H; exact H
                     clear H
                     have H := H1
                     clear H1
                     simp only [Option.some.injEq, Prod.mk.injEq] at H
                     obtain ⟨rfl, rfl⟩ := H
                     have p367 : 0 ≤ ((ji23) : Int) := of_decide_eq_true (by first | (with_reducible assumption) | assumption)
                     have q367 : (ji23) < (l0.length : Int) := of_decide_eq_true (by first | (with_reducible assumption) | assumption)
                     obtain ⟨ad367, e367, hx367_0⟩ := Kd.at_int HR0.out (ji23) p367 q367
                     obtain rfl : ad364 = ad367 := (by injection e367)
                     replace p367 := eq_true p367
                     replace q367 := eq_true q367
                     go_wp2_with (first | (go_at_call 37; (with_reducible refine (gjson_ishex.calls (rd l0 (ji23)) false _ A26.out).mono ?_); rintro e w' ⟨rfl, ⟨nd, rfl⟩⟩))
                     go_ret2
                     exact ⟨by first | rfl | (simp; done) | (simp only [← hji8, ← hji23] <;> (first | rfl | simp)) | (simp [*]; done), by repeat (first | exact Drawn0.refl _ | apply Drawn0.step)⟩
                   ·
                    rw [if_neg c25] at H
                    exact absurd H (by simp)
                  ·
                   rw [if_neg c24] at H
                   exact absurd H (by simp)
                ·
                 rw [if_neg c21] at H
                 have c21b0 : decide (x46_3 < 4) = false := decide_eq_false c21
                 clear c21
                 have H' := Aside0.mk H
                 clear H
                 go_wp2
                 go_roundg k3
                 case measure => have := HK1.out; have := HJ10.out; have := HK3.out; omega
                 case rel => exact ⟨(wrap64 (x1_3 + 1)), (by first | rfl | (simp; done) | (simp [*]; done) | (simp; rw [Bool.eq_iff_iff]; simp; done)), H', ⟨by have := HK1.out; have := HJ10.out; have := HK3.out; omega⟩, by repeat (first | exact Drawn0.refl _ | apply Drawn0.step)⟩
             ·
              rw [if_neg c20] at H
              have c20b0 : ((rd l0 (ji8)) == 117) = false := beq_eq_false_iff_ne.mpr c20
              have c20b1 : ((rd l0 (ji8)) != 117) = true := bne_iff_ne.mpr c20
              simp only [Option.some.injEq, Prod.mk.injEq] at H
              obtain ⟨rfl, rfl⟩ := H
              go_wp2
              go_ret2
              exact ⟨by first | rfl | (simp; done) | (simp only [← hji8] <;> (first | rfl | (simp; done))) | (simp [*]; done), by repeat (first | exact Drawn0.refl _ | apply Drawn0.step)⟩
         ·
          rw [if_neg c10] at H
          exact absurd H (by simp)
        ·
         rw [if_neg c9] at H
         exact absurd H (by simp)
      ·
       rw [if_neg c6] at H
       have c6b0 : ((rd l0 x1_1) == 92) = false := beq_eq_false_iff_ne.mpr c6
       have c6b1 : ((rd l0 x1_1) != 92) = true := bne_iff_ne.mpr c6
       by_cases c28 : (rd l0 x1_1) = 34
       ·
        rw [if_pos c28] at H
        have c28b0 : ((rd l0 x1_1) == 34) = true := beq_iff_eq.mpr c28
        have c28b1 : ((rd l0 x1_1) != 34) = false := bne_eq_false_iff_eq.mpr c28
        clear c28
        simp only [Option.some.injEq, Prod.mk.injEq] at H
        obtain ⟨rfl, rfl⟩ := H
        have p364 : 0 ≤ (x1_1 : Int) := of_decide_eq_true (by first | (with_reducible assumption) | assumption)
        have q364 : x1_1 < (l0.length : Int) := of_decide_eq_true (by first | (with_reducible assumption) | assumption)
        obtain ⟨ad364, e364, hx364_0⟩ := Kd.at_int HR0.out x1_1 p364 q364
        cases e364
        replace p364 := eq_true p364
        replace q364 := eq_true q364
        have p365 : 0 ≤ (x1_1 : Int) := of_decide_eq_true (by first | (with_reducible assumption) | assumption)
        have q365 : x1_1 < (l0.length : Int) := of_decide_eq_true (by first | (with_reducible assumption) | assumption)
        obtain ⟨ad365, e365, hx365_0⟩ := Kd.at_int HR0.out x1_1 p365 q365
        obtain rfl : ad364 = ad365 := (by injection e365)
        replace p365 := eq_true p365
        replace q365 := eq_true q365
        have p369 : 0 ≤ (x1_1 : Int) := of_decide_eq_true (by first | (with_reducible assumption) | assumption)
        have q369 : x1_1 < (l0.length : Int) := of_decide_eq_true (by first | (with_reducible assumption) | assumption)
        obtain ⟨ad369, e369, hx369_0⟩ := Kd.at_int HR0.out x1_1 p369 q369
        obtain rfl : ad364 = ad369 := (by injection e369)
        replace p369 := eq_true p369
        replace q369 := eq_true q369
        go_wp2
        go_ret2
        exact ⟨by first | rfl | (simp; done) | (simp [*]; done) | (simp; rw [Bool.eq_iff_iff]; simp; done), by repeat (first | exact Drawn0.refl _ | apply Drawn0.step)⟩
       ·
        rw [if_neg c28] at H
        have c28b0 : ((rd l0 x1_1) == 34) = false := beq_eq_false_iff_ne.mpr c28
        have c28b1 : ((rd l0 x1_1) != 34) = true := bne_iff_ne.mpr c28
        have H' := Aside0.mk H
        clear H
        have p364 : 0 ≤ (x1_1 : Int) := of_decide_eq_true (by first | (with_reducible assumption) | assumption)
        have q364 : x1_1 < (l0.length : Int) := of_decide_eq_true (by first | (with_reducible assumption) | assumption)
        obtain ⟨ad364, e364, hx364_0⟩ := Kd.at_int HR0.out x1_1 p364 q364
        cases e364
        replace p364 := eq_true p364
        replace q364 := eq_true q364
        have p365 : 0 ≤ (x1_1 : Int) := of_decide_eq_true (by first | (with_reducible assumption) | assumption)
        have q365 : x1_1 < (l0.length : Int) := of_decide_eq_true (by first | (with_reducible assumption) | assumption)
        obtain ⟨ad365, e365, hx365_0⟩ := Kd.at_int HR0.out x1_1 p365 q365
        obtain rfl : ad364 = ad365 := (by injection e365)
        replace p365 := eq_true p365
        replace q365 := eq_true q365
        have p369 : 0 ≤ (x1_1 : Int) := of_decide_eq_true (by first | (with_reducible assumption) | assumption)
        have q369 : x1_1 < (l0.length : Int) := of_decide_eq_true (by first | (with_reducible assumption) | assumption)
        obtain ⟨ad369, e369, hx369_0⟩ := Kd.at_int HR0.out x1_1 p369 q369
        obtain rfl : ad364 = ad369 := (by injection e369)
        replace p369 := eq_true p369
        replace q369 := eq_true q369
        go_wp2
        go_roundg k1
        case measure => have := HK1.out; omega
        case rel => exact ⟨(wrap64 (x1_1 + 1)), (by first | rfl | (simp; done) | (simp [*]; done) | (simp; rw [Bool.eq_iff_iff]; simp; done)), H', ⟨by have := HK1.out; omega⟩, by repeat (first | exact Drawn0.refl _ | apply Drawn0.step)⟩
    ·
     rw [if_neg c4] at H
     exact absurd H (by simp)
   ·
    rw [if_neg c3] at H
    have c3b0 : decide (x1_1 < (l0.length : Int)) = false := decide_eq_false c3
    clear c3
    simp only [Option.some.injEq, Prod.mk.injEq] at H
    obtain ⟨rfl, rfl⟩ := H
    go_wp2
    go_ret2
    exact ⟨by first | rfl | (simp; done) | (simp [*]; done) | (simp; rw [Bool.eq_iff_iff]; simp; done), by repeat (first | exact Drawn0.refl _ | apply Drawn0.step)⟩

end Go.Proofs.Ytdokakhhpcckaaa.MFnPrSpecAgain
