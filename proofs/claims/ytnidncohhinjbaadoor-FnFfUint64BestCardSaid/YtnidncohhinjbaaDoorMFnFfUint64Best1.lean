/- What Go functions compute, as functions of numbers and lists, and the walks that show it. No condition. Written by a program (wip/tools/mprint.py) over the kit's print. -/
import Derived.Test.YtnidncohhinjbaaDoorMFnFfUint64Best0
import Derived.Test.YtnidncohhinjbaaDoorFfU
namespace Go.Proofs.YtnidncohhinjbaaDoor.MFnFfUint64Best
open Go.RowKit Go.Proofs.YtnidncohhinjbaaDoorW.PrintWords Go.Proofs.YtnidncohhinjbaaDoorW.PrintLast Go.Proofs.YtnidncohhinjbaaDoorW.PrintMore
attribute [local go_sem] max2_int min2_int max_two min_two max_three min_three max_four min_four   -- for this text's walks alone
set_option linter.unusedVariables false
set_option linter.unusedSimpArgs false

/-! ### laws_FnFfUint64Best: function 5 -/
def laws_FnFfUint64Best.f (k : Nat) (a0 : ByteArray) : Option (Bool) := if (a0.size : Int) > 2147483647 then (some true) else (if (a0.size : Int) > 1000 then (some true) else ((impl_FfUint64.f k a0).bind fun bt101 => (if bt101.2 = true then ((impl_FfUint64Best.f k a0).bind fun t103 => (if t103 = bt101.1 then ((impl_FfUint64Best.f k (⟨#[55]⟩ : ByteArray)).bind fun t104 => (some (t104 == 7))) else (some false))) else ((impl_FfUint64Best.f k a0).bind fun t105 => (if t105 = 0 then ((impl_FfUint64Best.f k (⟨#[55]⟩ : ByteArray)).bind fun t106 => (some (t106 == 7))) else (some false))))))
theorem laws_FnFfUint64Best.mono : ∀ a0 k, LeO (laws_FnFfUint64Best.f k a0) (laws_FnFfUint64Best.f (k + 1) a0) := by
 intro a0 k
 unfold laws_FnFfUint64Best.f
 repeat' first
   | (with_reducible exact impl_FfUint64.mono _ _)
   | (with_reducible exact impl_FfUint64Best.mono _ _)
   | (with_reducible exact LeO.refl _)
   | (with_reducible exact LeO.none _)
   | (with_reducible refine LeO.ite ?_ ?_)
   | (with_reducible refine LeO.bind ?_ (fun _ => ?_))
   | exact impl_FfUint64.mono _ _
   | exact impl_FfUint64Best.mono _ _
   | exact LeO.none _
   | refine LeO.ite ?_ ?_
   | refine LeO.bind ?_ (fun _ => ?_)
set_option maxHeartbeats 8000000 in
set_option maxRecDepth 100000 in
theorem laws_FnFfUint64Best.calls (k : Nat) (a0 : ByteArray) (r : Bool) (w : World) (hG : GLErr w) (h : laws_FnFfUint64Best.f k a0 = some r) :
  Calls Tryd.prog 5 #[.string a0] w fun e w' => e = .returned (.bool r) ∧ Below w.heap.size w w' := by
 have HGL := Aside0.mk hG
 clear hG
 have HB := Aside0.mk (Below.refl w.heap.size w)
 have H : (if (a0.size : Int) > 2147483647 then (some true) else (if (a0.size : Int) > 1000 then (some true) else ((impl_FfUint64.f k a0).bind fun bt101 => (if bt101.2 = true then ((impl_FfUint64Best.f k a0).bind fun t103 => (if t103 = bt101.1 then ((impl_FfUint64Best.f k (⟨#[55]⟩ : ByteArray)).bind fun t104 => (some (t104 == 7))) else (some false))) else ((impl_FfUint64Best.f k a0).bind fun t105 => (if t105 = 0 then ((impl_FfUint64Best.f k (⟨#[55]⟩ : ByteArray)).bind fun t106 => (some (t106 == 7))) else (some false))))))) = some r := h
 clear h
 by_cases c2 : (a0.size : Int) > 2147483647
 ·
  rw [if_pos c2] at H
  have c2b0 : decide (2147483647 < (a0.size : Int)) = true := decide_eq_true c2
  have c2b1 : decide (2147483647 < a0.size) = true := decide_eq_true (by omega)
  clear c2
  obtain rfl := Option.some.inj H
  go_enter Tryd.func5, Tryd.ntmps5
  go_wp2
  go_ret
  exact ⟨by first | rfl | (simp [errW_none, errW_some] <;> rfl) | (simp [*, errW_none, errW_some] <;> rfl), by repeat (first | (with_reducible first | exact HB.out | apply below_alloc | apply pw_below_drewN | apply below_drew1) | exact HB.out)⟩
 ·
  rw [if_neg c2] at H
  have c2b0 : decide (2147483647 < (a0.size : Int)) = false := decide_eq_false c2
  have c2b1 : decide (2147483647 < a0.size) = false := decide_eq_false (by omega)
  clear c2
  by_cases c3 : (a0.size : Int) > 1000
  ·
   rw [if_pos c3] at H
   have c3b0 : decide (1000 < (a0.size : Int)) = true := decide_eq_true c3
   have c3b1 : decide (1000 < a0.size) = true := decide_eq_true (by omega)
   clear c3
   obtain rfl := Option.some.inj H
   go_enter Tryd.func5, Tryd.ntmps5
   go_wp2
   go_ret
   exact ⟨by first | rfl | (simp [errW_none, errW_some] <;> rfl) | (simp [*, errW_none, errW_some] <;> rfl), by repeat (first | (with_reducible first | exact HB.out | apply below_alloc | apply pw_below_drewN | apply below_drew1) | exact HB.out)⟩
  ·
   rw [if_neg c3] at H
   have c3b0 : decide (1000 < (a0.size : Int)) = false := decide_eq_false c3
   have c3b1 : decide (1000 < a0.size) = false := decide_eq_false (by omega)
   clear c3
   replace H := Option.bind_eq_some_iff.mp H
   obtain ⟨⟨t101, t102⟩, A40, H⟩ := H
   replace H : (if t102 = true then ((impl_FfUint64Best.f k a0).bind fun t103 => (if t103 = t101 then ((impl_FfUint64Best.f k (⟨#[55]⟩ : ByteArray)).bind fun t104 => (some (t104 == 7))) else (some false))) else ((impl_FfUint64Best.f k a0).bind fun t105 => (if t105 = 0 then ((impl_FfUint64Best.f k (⟨#[55]⟩ : ByteArray)).bind fun t106 => (some (t106 == 7))) else (some false)))) = some r := H
   have A4 := Aside0.mk A40
   clear A40
   by_cases c5 : t102 = true
   ·
    subst c5
    have H1 : ((impl_FfUint64Best.f k a0).bind fun t103 => (if t103 = t101 then ((impl_FfUint64Best.f k (⟨#[55]⟩ : ByteArray)).bind fun t104 => (some (t104 == 7))) else (some false))) = some r := by rw [if_pos rfl] at H; exact H
    clear H
    have H := H1
    clear H1
    replace H := Option.bind_eq_some_iff.mp H
    obtain ⟨t103, A60, H⟩ := H
    replace H : (if t103 = t101 then ((impl_FfUint64Best.f k (⟨#[55]⟩ : ByteArray)).bind fun t104 => (some (t104 == 7))) else (some false)) = some r := H
    have A6 := Aside0.mk A60
    clear A60
    by_cases c7 : t103 = t101
    ·
     rw [if_pos c7] at H
     have c7b0 : (t103 == t101) = true := beq_iff_eq.mpr c7
     have c7b1 : (t103 != t101) = false := bne_eq_false_iff_eq.mpr c7
     clear c7
     replace H := Option.bind_eq_some_iff.mp H
     obtain ⟨t104, A80, H⟩ := H
     replace H : (some (t104 == 7)) = some r := H
     have A8 := Aside0.mk A80
     clear A80
     obtain rfl := Option.some.inj H
     go_enter Tryd.func5, Tryd.ntmps5
     go_wp2_with (first | ((with_reducible refine gate_callee (f := 14) rfl ?_); refine goesL_ (some 13) rfl rfl Tryd.func14 (by kernel_rfl) rfl #[.string a0] rfl (by (try simp only [List.map_toArray, List.map_cons, List.map_nil]); first | done | rfl | (simp only [List.length_drop, List.length_take]; rfl)) ?_; (with_reducible refine (impl_FfUint64.calls k a0 t101 true _ ?side1 A4.out).mono ?_); (case side1 => exact GLErr.keep HGL.out (by repeat (first | (with_reducible first | exact HB.out | apply below_alloc | apply pw_below_drewN | apply below_drew1) | exact HB.out))); rintro e w9 ⟨rfl, hb⟩; refine ⟨_, rfl, ?_⟩; have n0_ := Aside0.mk (below_step (by repeat (first | (with_reducible first | exact HB.out | apply below_alloc | apply pw_below_drewN | apply below_drew1) | exact HB.out)) hb); clear HB; have HB := n0_; clear n0_; (try clear hb); (try clear hb2); (try clear hk); (try clear hi)) | ((with_reducible refine gate_callee (f := 15) rfl ?_); refine goesL_ (some 19) rfl rfl Tryd.func15 (by kernel_rfl) rfl #[.string a0] rfl (by (try simp only [List.map_toArray, List.map_cons, List.map_nil]); first | done | rfl | (simp only [List.length_drop, List.length_take]; rfl)) ?_; (with_reducible refine (impl_FfUint64Best.calls k a0 t103 _ ?side1 A6.out).mono ?_); (case side1 => exact GLErr.keep HGL.out (by repeat (first | (with_reducible first | exact HB.out | apply below_alloc | apply pw_below_drewN | apply below_drew1) | exact HB.out))); rintro e w10 ⟨rfl, hb⟩; refine ⟨_, rfl, ?_⟩; have n0_ := Aside0.mk (below_step (by repeat (first | (with_reducible first | exact HB.out | apply below_alloc | apply pw_below_drewN | apply below_drew1) | exact HB.out)) hb); clear HB; have HB := n0_; clear n0_; (try clear hb); (try clear hb2); (try clear hk); (try clear hi)) | (go_at_call 15; (with_reducible refine (impl_FfUint64Best.calls k (⟨#[55]⟩ : ByteArray) t104 _ ?side1 A8.out).mono ?_); (case side1 => exact GLErr.keep HGL.out (by repeat (first | (with_reducible first | exact HB.out | apply below_alloc | apply pw_below_drewN | apply below_drew1) | exact HB.out))); rintro e w11 ⟨rfl, hb⟩; have n0_ := Aside0.mk (below_step (by repeat (first | (with_reducible first | exact HB.out | apply below_alloc | apply pw_below_drewN | apply below_drew1) | exact HB.out)) hb); clear HB; have HB := n0_; clear n0_; (try clear hb); (try clear hb2); (try clear hk); (try clear hi)))
     go_ret
     exact ⟨by first | rfl | (simp [errW_none, errW_some] <;> rfl) | (simp [*, errW_none, errW_some] <;> rfl), by repeat (first | (with_reducible first | exact HB.out | apply below_alloc | apply pw_below_drewN | apply below_drew1) | exact HB.out)⟩
    ·
     rw [if_neg c7] at H
     have c7b0 : (t103 == t101) = false := beq_eq_false_iff_ne.mpr c7
     have c7b1 : (t103 != t101) = true := bne_iff_ne.mpr c7
     obtain rfl := Option.some.inj H
     go_enter Tryd.func5, Tryd.ntmps5
     go_wp2_with (first | ((with_reducible refine gate_callee (f := 14) rfl ?_); refine goesL_ (some 13) rfl rfl Tryd.func14 (by kernel_rfl) rfl #[.string a0] rfl (by (try simp only [List.map_toArray, List.map_cons, List.map_nil]); first | done | rfl | (simp only [List.length_drop, List.length_take]; rfl)) ?_; (with_reducible refine (impl_FfUint64.calls k a0 t101 true _ ?side1 A4.out).mono ?_); (case side1 => exact GLErr.keep HGL.out (by repeat (first | (with_reducible first | exact HB.out | apply below_alloc | apply pw_below_drewN | apply below_drew1) | exact HB.out))); rintro e w12 ⟨rfl, hb⟩; refine ⟨_, rfl, ?_⟩; have n0_ := Aside0.mk (below_step (by repeat (first | (with_reducible first | exact HB.out | apply below_alloc | apply pw_below_drewN | apply below_drew1) | exact HB.out)) hb); clear HB; have HB := n0_; clear n0_; (try clear hb); (try clear hb2); (try clear hk); (try clear hi)) | ((with_reducible refine gate_callee (f := 15) rfl ?_); refine goesL_ (some 19) rfl rfl Tryd.func15 (by kernel_rfl) rfl #[.string a0] rfl (by (try simp only [List.map_toArray, List.map_cons, List.map_nil]); first | done | rfl | (simp only [List.length_drop, List.length_take]; rfl)) ?_; (with_reducible refine (impl_FfUint64Best.calls k a0 t103 _ ?side1 A6.out).mono ?_); (case side1 => exact GLErr.keep HGL.out (by repeat (first | (with_reducible first | exact HB.out | apply below_alloc | apply pw_below_drewN | apply below_drew1) | exact HB.out))); rintro e w13 ⟨rfl, hb⟩; refine ⟨_, rfl, ?_⟩; have n0_ := Aside0.mk (below_step (by repeat (first | (with_reducible first | exact HB.out | apply below_alloc | apply pw_below_drewN | apply below_drew1) | exact HB.out)) hb); clear HB; have HB := n0_; clear n0_; (try clear hb); (try clear hb2); (try clear hk); (try clear hi)))
     go_ret
     exact ⟨by first | rfl | (simp [errW_none, errW_some] <;> rfl) | (simp [*, errW_none, errW_some] <;> rfl), by repeat (first | (with_reducible first | exact HB.out | apply below_alloc | apply pw_below_drewN | apply below_drew1) | exact HB.out)⟩
   ·
    replace c5 := Bool.eq_false_iff.mpr c5
    subst c5
    have H1 : ((impl_FfUint64Best.f k a0).bind fun t105 => (if t105 = 0 then ((impl_FfUint64Best.f k (⟨#[55]⟩ : ByteArray)).bind fun t106 => (some (t106 == 7))) else (some false))) = some r := by rw [if_neg (show ¬ (false = true) by decide)] at H; exact H
    clear H
    have H := H1
    clear H1
    replace H := Option.bind_eq_some_iff.mp H
    obtain ⟨t105, A140, H⟩ := H
    replace H : (if t105 = 0 then ((impl_FfUint64Best.f k (⟨#[55]⟩ : ByteArray)).bind fun t106 => (some (t106 == 7))) else (some false)) = some r := H
    have A14 := Aside0.mk A140
    clear A140
    by_cases c15 : t105 = 0
    ·
     rw [if_pos c15] at H
     have c15b0 : (t105 == 0) = true := beq_iff_eq.mpr c15
     have c15b1 : (t105 != 0) = false := bne_eq_false_iff_eq.mpr c15
     clear c15
     replace H := Option.bind_eq_some_iff.mp H
     obtain ⟨t106, A160, H⟩ := H
     replace H : (some (t106 == 7)) = some r := H
     have A16 := Aside0.mk A160
     clear A160
     obtain rfl := Option.some.inj H
     go_enter Tryd.func5, Tryd.ntmps5
     go_wp2_with (first | ((with_reducible refine gate_callee (f := 14) rfl ?_); refine goesL_ (some 13) rfl rfl Tryd.func14 (by kernel_rfl) rfl #[.string a0] rfl (by (try simp only [List.map_toArray, List.map_cons, List.map_nil]); first | done | rfl | (simp only [List.length_drop, List.length_take]; rfl)) ?_; (with_reducible refine (impl_FfUint64.calls k a0 t101 false _ ?side1 A4.out).mono ?_); (case side1 => exact GLErr.keep HGL.out (by repeat (first | (with_reducible first | exact HB.out | apply below_alloc | apply pw_below_drewN | apply below_drew1) | exact HB.out))); rintro e w17 ⟨rfl, hb⟩; refine ⟨_, rfl, ?_⟩; have n0_ := Aside0.mk (below_step (by repeat (first | (with_reducible first | exact HB.out | apply below_alloc | apply pw_below_drewN | apply below_drew1) | exact HB.out)) hb); clear HB; have HB := n0_; clear n0_; (try clear hb); (try clear hb2); (try clear hk); (try clear hi)) | ((with_reducible refine gate_callee (f := 15) rfl ?_); refine goesL_ (some 19) rfl rfl Tryd.func15 (by kernel_rfl) rfl #[.string a0] rfl (by (try simp only [List.map_toArray, List.map_cons, List.map_nil]); first | done | rfl | (simp only [List.length_drop, List.length_take]; rfl)) ?_; (with_reducible refine (impl_FfUint64Best.calls k a0 t105 _ ?side1 A14.out).mono ?_); (case side1 => exact GLErr.keep HGL.out (by repeat (first | (with_reducible first | exact HB.out | apply below_alloc | apply pw_below_drewN | apply below_drew1) | exact HB.out))); rintro e w18 ⟨rfl, hb⟩; refine ⟨_, rfl, ?_⟩; have n0_ := Aside0.mk (below_step (by repeat (first | (with_reducible first | exact HB.out | apply below_alloc | apply pw_below_drewN | apply below_drew1) | exact HB.out)) hb); clear HB; have HB := n0_; clear n0_; (try clear hb); (try clear hb2); (try clear hk); (try clear hi)) | (go_at_call 15; (with_reducible refine (impl_FfUint64Best.calls k (⟨#[55]⟩ : ByteArray) t106 _ ?side1 A16.out).mono ?_); (case side1 => exact GLErr.keep HGL.out (by repeat (first | (with_reducible first | exact HB.out | apply below_alloc | apply pw_below_drewN | apply below_drew1) | exact HB.out))); rintro e w19 ⟨rfl, hb⟩; have n0_ := Aside0.mk (below_step (by repeat (first | (with_reducible first | exact HB.out | apply below_alloc | apply pw_below_drewN | apply below_drew1) | exact HB.out)) hb); clear HB; have HB := n0_; clear n0_; (try clear hb); (try clear hb2); (try clear hk); (try clear hi)))
     go_ret
     exact ⟨by first | rfl | (simp [errW_none, errW_some] <;> rfl) | (simp [*, errW_none, errW_some] <;> rfl), by repeat (first | (with_reducible first | exact HB.out | apply below_alloc | apply pw_below_drewN | apply below_drew1) | exact HB.out)⟩
    ·
     rw [if_neg c15] at H
     have c15b0 : (t105 == 0) = false := beq_eq_false_iff_ne.mpr c15
     have c15b1 : (t105 != 0) = true := bne_iff_ne.mpr c15
     obtain rfl := Option.some.inj H
     go_enter Tryd.func5, Tryd.ntmps5
     go_wp2_with (first | ((with_reducible refine gate_callee (f := 14) rfl ?_); refine goesL_ (some 13) rfl rfl Tryd.func14 (by kernel_rfl) rfl #[.string a0] rfl (by (try simp only [List.map_toArray, List.map_cons, List.map_nil]); first | done | rfl | (simp only [List.length_drop, List.length_take]; rfl)) ?_; (with_reducible refine (impl_FfUint64.calls k a0 t101 false _ ?side1 A4.out).mono ?_); (case side1 => exact GLErr.keep HGL.out (by repeat (first | (with_reducible first | exact HB.out | apply below_alloc | apply pw_below_drewN | apply below_drew1) | exact HB.out))); rintro e w20 ⟨rfl, hb⟩; refine ⟨_, rfl, ?_⟩; have n0_ := Aside0.mk (below_step (by repeat (first | (with_reducible first | exact HB.out | apply below_alloc | apply pw_below_drewN | apply below_drew1) | exact HB.out)) hb); clear HB; have HB := n0_; clear n0_; (try clear hb); (try clear hb2); (try clear hk); (try clear hi)) | ((with_reducible refine gate_callee (f := 15) rfl ?_); refine goesL_ (some 19) rfl rfl Tryd.func15 (by kernel_rfl) rfl #[.string a0] rfl (by (try simp only [List.map_toArray, List.map_cons, List.map_nil]); first | done | rfl | (simp only [List.length_drop, List.length_take]; rfl)) ?_; (with_reducible refine (impl_FfUint64Best.calls k a0 t105 _ ?side1 A14.out).mono ?_); (case side1 => exact GLErr.keep HGL.out (by repeat (first | (with_reducible first | exact HB.out | apply below_alloc | apply pw_below_drewN | apply below_drew1) | exact HB.out))); rintro e w21 ⟨rfl, hb⟩; refine ⟨_, rfl, ?_⟩; have n0_ := Aside0.mk (below_step (by repeat (first | (with_reducible first | exact HB.out | apply below_alloc | apply pw_below_drewN | apply below_drew1) | exact HB.out)) hb); clear HB; have HB := n0_; clear n0_; (try clear hb); (try clear hb2); (try clear hk); (try clear hi)))
     go_ret
     exact ⟨by first | rfl | (simp [errW_none, errW_some] <;> rfl) | (simp [*, errW_none, errW_some] <;> rfl), by repeat (first | (with_reducible first | exact HB.out | apply below_alloc | apply pw_below_drewN | apply below_drew1) | exact HB.out)⟩

/-- THE ONE PURE STATEMENT of laws_FnFfUint64Best: yours. -/
def laws_FnFfUint64Best.Pure : Prop := ∀ (a0 : ByteArray), a0.size ≤ 140737488351232 → ∃ k, laws_FnFfUint64Best.f k a0 = some true
theorem laws_FnFfUint64Best.walk (P : laws_FnFfUint64Best.Pure) (a0 : ByteArray) (w : World) (hG : GLErr w) (w0 : a0.size ≤ 140737488351232) :
  Calls Tryd.prog 5 #[.string a0] w fun e w' => e = .returned (.bool true) ∧ Below w.heap.size w w' := by
 obtain ⟨k, h⟩ := P a0 w0
 refine (laws_FnFfUint64Best.calls k a0 true w hG h).mono ?_
 rintro e w' ⟨rfl, hd⟩
 exact ⟨rfl, hd⟩

end Go.Proofs.YtnidncohhinjbaaDoor.MFnFfUint64Best
