/- What Go functions compute, as functions of numbers and lists, and the walks that show it. No condition. Written by a program (wip/tools/mprint.py) over the kit's print. -/
import Derived.Test.YtifcmhekpbfboaaMFnGjQueryAny0
import Derived.Test.YtifcmhekpbfboaaPq2
namespace Go.Proofs.Ytifcmhekpbfboaa.MFnGjQueryAny
open Go.RowKit Go.Proofs.YtifcmhekpbfboaaW.PrintWords Go.Proofs.YtifcmhekpbfboaaW.PrintLast Go.Proofs.YtifcmhekpbfboaaW.PrintMore
attribute [local go_sem] max2_int min2_int max_two min_two max_three min_three max_four min_four   -- for this text's walks alone
set_option linter.unusedVariables false
set_option linter.unusedSimpArgs false

/-! ### gjson_DoorQuery: function 38 -/
def gjson_DoorQuery.f (a0 : ByteArray) : Option (ByteArray × ByteArray × ByteArray × ByteArray × Int × Bool × Bool) := (gjson_parseQuery.f a0).bind fun bt101 => (some (bt101.1, bt101.2.1, bt101.2.2.1, bt101.2.2.2.1, bt101.2.2.2.2.1, bt101.2.2.2.2.2.1, bt101.2.2.2.2.2.2))
set_option maxHeartbeats 8000000 in
set_option maxRecDepth 100000 in
theorem gjson_DoorQuery.calls (a0 : ByteArray) (r1 : ByteArray) (r2 : ByteArray) (r3 : ByteArray) (r4 : ByteArray) (r5 : Int) (r6 : Bool) (r7 : Bool) (w : World) (h : gjson_DoorQuery.f a0 = some (r1, r2, r3, r4, r5, r6, r7)) :
  Calls Try.prog 38 #[.string a0] w fun e w' => e = .returned (.tuple #[.string r1, .string r2, .string r3, .string r4, .int .i64 r5, .bool r6, .bool r7]) ∧ Below w.heap.size w w' := by
 have HB := Aside0.mk (Below.refl w.heap.size w)
 have H : ((gjson_parseQuery.f a0).bind fun bt101 => (some (bt101.1, bt101.2.1, bt101.2.2.1, bt101.2.2.2.1, bt101.2.2.2.2.1, bt101.2.2.2.2.2.1, bt101.2.2.2.2.2.2))) = some (r1, r2, r3, r4, r5, r6, r7) := h
 clear h
 replace H := Option.bind_eq_some_iff.mp H
 obtain ⟨⟨t101, t102, t103, t104, t105, t106, t107⟩, A20, H⟩ := H
 replace H : (some (t101, t102, t103, t104, t105, t106, t107)) = some (r1, r2, r3, r4, r5, r6, r7) := H
 have A2 := Aside0.mk A20
 clear A20
 simp only [Option.some.injEq, Prod.mk.injEq] at H
 obtain ⟨rfl, rfl, rfl, rfl, rfl, rfl, rfl⟩ := H
 go_enter Try.func38, Try.ntmps38
 go_wp2_with (first | ((with_reducible refine gate_callee (f := 52) rfl ?_); refine goesL_ (some 10) rfl rfl Try.func52 (by kernel_rfl) rfl #[.string a0] rfl (by (try simp only [List.map_toArray, List.map_cons, List.map_nil]); first | done | rfl | (simp only [List.length_drop, List.length_take]; rfl)) ?_; (with_reducible refine (gjson_parseQuery.calls a0 t101 t102 t103 t104 t105 t106 t107 _ A2.out).mono ?_); rintro e w3 ⟨rfl, hb⟩; refine ⟨_, rfl, ?_⟩; have n0_ := Aside0.mk (below_step (by repeat (first | (with_reducible first | exact HB.out | apply below_alloc | apply pw_below_drewN | apply below_drew1) | exact HB.out)) hb); clear HB; have HB := n0_; clear n0_; (try clear hb); (try clear hb2); (try clear hk); (try clear hi)))
 refine bodyPost_ret (results_list (rs := [.tmp 2, .tmp 3, .tmp 4, .tmp 5, .tmp 6, .tmp 7, .tmp 8]) rfl (by simp) (.tmp (.tmp (.tmp (.tmp (.tmp (.tmp (.tmp .nil)))))))) rfl ?_
 exact ⟨by first | rfl | (simp [errW_none, errW_some] <;> rfl) | (simp [*, errW_none, errW_some] <;> rfl), by repeat (first | (with_reducible first | exact HB.out | apply below_alloc | apply pw_below_drewN | apply below_drew1) | exact HB.out)⟩

/-! ### impl_GjQuery: function 24 -/
def impl_GjQuery.f (a0 : ByteArray) : Option (ByteArray × ByteArray × ByteArray × ByteArray × Int × Bool × Bool) := (gjson_DoorQuery.f a0).bind fun bt108 => (some (bt108.1, bt108.2.1, bt108.2.2.1, bt108.2.2.2.1, bt108.2.2.2.2.1, bt108.2.2.2.2.2.1, bt108.2.2.2.2.2.2))
set_option maxHeartbeats 8000000 in
set_option maxRecDepth 100000 in
theorem impl_GjQuery.calls (a0 : ByteArray) (r1 : ByteArray) (r2 : ByteArray) (r3 : ByteArray) (r4 : ByteArray) (r5 : Int) (r6 : Bool) (r7 : Bool) (w : World) (h : impl_GjQuery.f a0 = some (r1, r2, r3, r4, r5, r6, r7)) :
  Calls Try.prog 24 #[.string a0] w fun e w' => e = .returned (.tuple #[.string r1, .string r2, .string r3, .string r4, .int .i64 r5, .bool r6, .bool r7]) ∧ Below w.heap.size w w' := by
 have HB := Aside0.mk (Below.refl w.heap.size w)
 have H : ((gjson_DoorQuery.f a0).bind fun bt108 => (some (bt108.1, bt108.2.1, bt108.2.2.1, bt108.2.2.2.1, bt108.2.2.2.2.1, bt108.2.2.2.2.2.1, bt108.2.2.2.2.2.2))) = some (r1, r2, r3, r4, r5, r6, r7) := h
 clear h
 replace H := Option.bind_eq_some_iff.mp H
 obtain ⟨⟨t108, t109, t110, t111, t112, t113, t114⟩, A20, H⟩ := H
 replace H : (some (t108, t109, t110, t111, t112, t113, t114)) = some (r1, r2, r3, r4, r5, r6, r7) := H
 have A2 := Aside0.mk A20
 clear A20
 simp only [Option.some.injEq, Prod.mk.injEq] at H
 obtain ⟨rfl, rfl, rfl, rfl, rfl, rfl, rfl⟩ := H
 go_enter Try.func24, Try.ntmps24
 go_wp2_with (first | ((with_reducible refine gate_callee (f := 38) rfl ?_); refine goesL_ (some 10) rfl rfl Try.func38 (by kernel_rfl) rfl #[.string a0] rfl (by (try simp only [List.map_toArray, List.map_cons, List.map_nil]); first | done | rfl | (simp only [List.length_drop, List.length_take]; rfl)) ?_; (with_reducible refine (gjson_DoorQuery.calls a0 t108 t109 t110 t111 t112 t113 t114 _ A2.out).mono ?_); rintro e w3 ⟨rfl, hb⟩; refine ⟨_, rfl, ?_⟩; have n0_ := Aside0.mk (below_step (by repeat (first | (with_reducible first | exact HB.out | apply below_alloc | apply pw_below_drewN | apply below_drew1) | exact HB.out)) hb); clear HB; have HB := n0_; clear n0_; (try clear hb); (try clear hb2); (try clear hk); (try clear hi)))
 refine bodyPost_ret (results_list (rs := [.tmp 2, .tmp 3, .tmp 4, .tmp 5, .tmp 6, .tmp 7, .tmp 8]) rfl (by simp) (.tmp (.tmp (.tmp (.tmp (.tmp (.tmp (.tmp .nil)))))))) rfl ?_
 exact ⟨by first | rfl | (simp [errW_none, errW_some] <;> rfl) | (simp [*, errW_none, errW_some] <;> rfl), by repeat (first | (with_reducible first | exact HB.out | apply below_alloc | apply pw_below_drewN | apply below_drew1) | exact HB.out)⟩

/-! ### laws_FnGjQueryAny: function 8 -/
def laws_FnGjQueryAny.j0 : Nat → ByteArray → Int → Bool → Option (Bool)
 | 0, _, _, _ => none
 | k + 1, x0, x7, x69 => if x69 = true then (some false) else (if 0 ≤ (wrap64 (x7 - 1)) then (if (wrap64 (x7 - 1)) < (x0.size : Int) then (if (bt x0 (wrap64 (x7 - 1))) = 41 then ((impl_GjQuery.f (⟨#[35, 40, 97, 41]⟩ : ByteArray)).bind fun bt122 => (if bt122.2.2.2.2.2.2 = true then (some (bt122.1.toList == ([97] : List UInt8))) else (some false))) else (if (bt x0 (wrap64 (x7 - 1))) = 93 then ((impl_GjQuery.f (⟨#[35, 40, 97, 41]⟩ : ByteArray)).bind fun bt129 => (if bt129.2.2.2.2.2.2 = true then (some (bt129.1.toList == ([97] : List UInt8))) else (some false))) else (some false))) else (none)) else (none))
def laws_FnGjQueryAny.f (k : Nat) (a0 : ByteArray) : Option (Bool) := if (a0.size : Int) > 2147483647 then (some true) else (if (a0.size : Int) > 4096 then (some true) else ((impl_GjQuery.f a0).bind fun bt115 => (if bt115.2.2.2.2.2.2 = true then (if (a0.size : Int) < 3 then (laws_FnGjQueryAny.j0 k a0 bt115.2.2.2.2.1 true) else (if 0 < (a0.size : Int) then (if (bt a0 0) = 35 then (if 1 < (a0.size : Int) then (if (bt a0 1) = 40 then (if bt115.2.2.2.2.1 < 3 then (laws_FnGjQueryAny.j0 k a0 bt115.2.2.2.2.1 true) else (if bt115.2.2.2.2.1 > (a0.size : Int) then (laws_FnGjQueryAny.j0 k a0 bt115.2.2.2.2.1 true) else (if 0 ≤ bt115.2.2.2.2.1 then (if bt115.2.2.2.2.1 ≤ (a0.size : Int) then (laws_FnGjQueryAny.j0 k a0 bt115.2.2.2.2.1 (bt115.2.2.2.1.toList != (a0.extract (bt115.2.2.2.2.1 : Int).toNat a0.size).toList)) else (none)) else (none)))) else (if (bt a0 1) = 91 then (if bt115.2.2.2.2.1 < 3 then (laws_FnGjQueryAny.j0 k a0 bt115.2.2.2.2.1 true) else (if bt115.2.2.2.2.1 > (a0.size : Int) then (laws_FnGjQueryAny.j0 k a0 bt115.2.2.2.2.1 true) else (if 0 ≤ bt115.2.2.2.2.1 then (if bt115.2.2.2.2.1 ≤ (a0.size : Int) then (laws_FnGjQueryAny.j0 k a0 bt115.2.2.2.2.1 (bt115.2.2.2.1.toList != (a0.extract (bt115.2.2.2.2.1 : Int).toNat a0.size).toList)) else (none)) else (none)))) else (laws_FnGjQueryAny.j0 k a0 bt115.2.2.2.2.1 true))) else (none)) else (laws_FnGjQueryAny.j0 k a0 bt115.2.2.2.2.1 true)) else (none))) else ((impl_GjQuery.f (⟨#[35, 40, 97, 41]⟩ : ByteArray)).bind fun bt136 => (if bt136.2.2.2.2.2.2 = true then (some (bt136.1.toList == ([97] : List UInt8))) else (some false))))))
theorem laws_FnGjQueryAny.mono_l : ∀ k, (∀ y0 y1 y2, LeO (laws_FnGjQueryAny.j0 k y0 y1 y2) (laws_FnGjQueryAny.j0 (k + 1) y0 y1 y2))
 | 0 => fun _ _ _ r h => by simp [laws_FnGjQueryAny.j0] at h
 | k + 1 => by
  have ih0 := laws_FnGjQueryAny.mono_l k
  ·
   intro y0 y1 y2
   unfold laws_FnGjQueryAny.j0
   repeat' first
   | (with_reducible exact ih0 _ _ _)
   | (with_reducible exact LeO.refl _)
   | (with_reducible exact LeO.none _)
   | (with_reducible refine LeO.ite ?_ ?_)
   | (with_reducible refine LeO.bind ?_ (fun _ => ?_))
   | exact ih0 _ _ _
   | exact LeO.none _
   | refine LeO.ite ?_ ?_
   | refine LeO.bind ?_ (fun _ => ?_)
theorem laws_FnGjQueryAny.mono : ∀ a0 k, LeO (laws_FnGjQueryAny.f k a0) (laws_FnGjQueryAny.f (k + 1) a0) := by
 intro a0 k
 have ih0 := laws_FnGjQueryAny.mono_l k
 unfold laws_FnGjQueryAny.f
 repeat' first
   | (with_reducible exact ih0 _ _ _)
   | (with_reducible exact LeO.refl _)
   | (with_reducible exact LeO.none _)
   | (with_reducible refine LeO.ite ?_ ?_)
   | (with_reducible refine LeO.bind ?_ (fun _ => ?_))
   | exact ih0 _ _ _
   | exact LeO.none _
   | refine LeO.ite ?_ ?_
   | refine LeO.bind ?_ (fun _ => ?_)
set_option maxHeartbeats 8000000 in
set_option maxRecDepth 100000 in
theorem laws_FnGjQueryAny.calls (k : Nat) (a0 : ByteArray) (r : Bool) (w : World) (h : laws_FnGjQueryAny.f k a0 = some r) :
  Calls Try.prog 8 #[.string a0] w fun e w' => e = .returned (.bool r) ∧ Below w.heap.size w w' := by
 have HB := Aside0.mk (Below.refl w.heap.size w)
 have H : (if (a0.size : Int) > 2147483647 then (some true) else (if (a0.size : Int) > 4096 then (some true) else ((impl_GjQuery.f a0).bind fun bt115 => (if bt115.2.2.2.2.2.2 = true then (if (a0.size : Int) < 3 then (laws_FnGjQueryAny.j0 k a0 bt115.2.2.2.2.1 true) else (if 0 < (a0.size : Int) then (if (bt a0 0) = 35 then (if 1 < (a0.size : Int) then (if (bt a0 1) = 40 then (if bt115.2.2.2.2.1 < 3 then (laws_FnGjQueryAny.j0 k a0 bt115.2.2.2.2.1 true) else (if bt115.2.2.2.2.1 > (a0.size : Int) then (laws_FnGjQueryAny.j0 k a0 bt115.2.2.2.2.1 true) else (if 0 ≤ bt115.2.2.2.2.1 then (if bt115.2.2.2.2.1 ≤ (a0.size : Int) then (laws_FnGjQueryAny.j0 k a0 bt115.2.2.2.2.1 (bt115.2.2.2.1.toList != (a0.extract (bt115.2.2.2.2.1 : Int).toNat a0.size).toList)) else (none)) else (none)))) else (if (bt a0 1) = 91 then (if bt115.2.2.2.2.1 < 3 then (laws_FnGjQueryAny.j0 k a0 bt115.2.2.2.2.1 true) else (if bt115.2.2.2.2.1 > (a0.size : Int) then (laws_FnGjQueryAny.j0 k a0 bt115.2.2.2.2.1 true) else (if 0 ≤ bt115.2.2.2.2.1 then (if bt115.2.2.2.2.1 ≤ (a0.size : Int) then (laws_FnGjQueryAny.j0 k a0 bt115.2.2.2.2.1 (bt115.2.2.2.1.toList != (a0.extract (bt115.2.2.2.2.1 : Int).toNat a0.size).toList)) else (none)) else (none)))) else (laws_FnGjQueryAny.j0 k a0 bt115.2.2.2.2.1 true))) else (none)) else (laws_FnGjQueryAny.j0 k a0 bt115.2.2.2.2.1 true)) else (none))) else ((impl_GjQuery.f (⟨#[35, 40, 97, 41]⟩ : ByteArray)).bind fun bt136 => (if bt136.2.2.2.2.2.2 = true then (some (bt136.1.toList == ([97] : List UInt8))) else (some false))))))) = some r := h
 clear h
 by_cases c2 : (a0.size : Int) > 2147483647
 ·
  rw [if_pos c2] at H
  have c2b0 : decide (2147483647 < (a0.size : Int)) = true := decide_eq_true c2
  have c2b1 : decide (2147483647 < a0.size) = true := decide_eq_true (by omega)
  clear c2
  obtain rfl := Option.some.inj H
  go_enter Try.func8, Try.ntmps8
  go_wp2
  go_ret
  exact ⟨by first | rfl | (simp [errW_none, errW_some] <;> rfl) | (simp [*, errW_none, errW_some] <;> rfl), by repeat (first | (with_reducible first | exact HB.out | apply below_alloc | apply pw_below_drewN | apply below_drew1) | exact HB.out)⟩
 ·
  rw [if_neg c2] at H
  have c2b0 : decide (2147483647 < (a0.size : Int)) = false := decide_eq_false c2
  have c2b1 : decide (2147483647 < a0.size) = false := decide_eq_false (by omega)
  clear c2
  by_cases c3 : (a0.size : Int) > 4096
  ·
   rw [if_pos c3] at H
   have c3b0 : decide (4096 < (a0.size : Int)) = true := decide_eq_true c3
   have c3b1 : decide (4096 < a0.size) = true := decide_eq_true (by omega)
   clear c3
   obtain rfl := Option.some.inj H
   go_enter Try.func8, Try.ntmps8
   go_wp2
   go_ret
   exact ⟨by first | rfl | (simp [errW_none, errW_some] <;> rfl) | (simp [*, errW_none, errW_some] <;> rfl), by repeat (first | (with_reducible first | exact HB.out | apply below_alloc | apply pw_below_drewN | apply below_drew1) | exact HB.out)⟩
  ·
   rw [if_neg c3] at H
   have c3b0 : decide (4096 < (a0.size : Int)) = false := decide_eq_false c3
   have c3b1 : decide (4096 < a0.size) = false := decide_eq_false (by omega)
   clear c3
   replace H := Option.bind_eq_some_iff.mp H
   obtain ⟨⟨t115, t116, t117, t118, t119, t120, t121⟩, A40, H⟩ := H
   replace H : (if t121 = true then (if (a0.size : Int) < 3 then (laws_FnGjQueryAny.j0 k a0 t119 true) else (if 0 < (a0.size : Int) then (if (bt a0 0) = 35 then (if 1 < (a0.size : Int) then (if (bt a0 1) = 40 then (if t119 < 3 then (laws_FnGjQueryAny.j0 k a0 t119 true) else (if t119 > (a0.size : Int) then (laws_FnGjQueryAny.j0 k a0 t119 true) else (if 0 ≤ t119 then (if t119 ≤ (a0.size : Int) then (laws_FnGjQueryAny.j0 k a0 t119 (t118.toList != (a0.extract (t119 : Int).toNat a0.size).toList)) else (none)) else (none)))) else (if (bt a0 1) = 91 then (if t119 < 3 then (laws_FnGjQueryAny.j0 k a0 t119 true) else (if t119 > (a0.size : Int) then (laws_FnGjQueryAny.j0 k a0 t119 true) else (if 0 ≤ t119 then (if t119 ≤ (a0.size : Int) then (laws_FnGjQueryAny.j0 k a0 t119 (t118.toList != (a0.extract (t119 : Int).toNat a0.size).toList)) else (none)) else (none)))) else (laws_FnGjQueryAny.j0 k a0 t119 true))) else (none)) else (laws_FnGjQueryAny.j0 k a0 t119 true)) else (none))) else ((impl_GjQuery.f (⟨#[35, 40, 97, 41]⟩ : ByteArray)).bind fun bt136 => (if bt136.2.2.2.2.2.2 = true then (some (bt136.1.toList == ([97] : List UInt8))) else (some false)))) = some r := H
   have A4 := Aside0.mk A40
   clear A40
   by_cases c5 : t121 = true
   ·
    subst c5
    have H1 : (if (a0.size : Int) < 3 then (laws_FnGjQueryAny.j0 k a0 t119 true) else (if 0 < (a0.size : Int) then (if (bt a0 0) = 35 then (if 1 < (a0.size : Int) then (if (bt a0 1) = 40 then (if t119 < 3 then (laws_FnGjQueryAny.j0 k a0 t119 true) else (if t119 > (a0.size : Int) then (laws_FnGjQueryAny.j0 k a0 t119 true) else (if 0 ≤ t119 then (if t119 ≤ (a0.size : Int) then (laws_FnGjQueryAny.j0 k a0 t119 (t118.toList != (a0.extract (t119 : Int).toNat a0.size).toList)) else (none)) else (none)))) else (if (bt a0 1) = 91 then (if t119 < 3 then (laws_FnGjQueryAny.j0 k a0 t119 true) else (if t119 > (a0.size : Int) then (laws_FnGjQueryAny.j0 k a0 t119 true) else (if 0 ≤ t119 then (if t119 ≤ (a0.size : Int) then (laws_FnGjQueryAny.j0 k a0 t119 (t118.toList != (a0.extract (t119 : Int).toNat a0.size).toList)) else (none)) else (none)))) else (laws_FnGjQueryAny.j0 k a0 t119 true))) else (none)) else (laws_FnGjQueryAny.j0 k a0 t119 true)) else (none))) = some r := by rw [if_pos rfl] at H; exact H
    clear H
    have H := H1
    clear H1
    have HC6 := Aside0.mk H
    clear H
    go_enter Try.func8, Try.ntmps8
    go_upto_region 7 with (first | ((with_reducible refine gate_callee (f := 24) rfl ?_); refine goesL_ (some 26) rfl rfl Try.func24 (by kernel_rfl) rfl #[.string a0] rfl (by (try simp only [List.map_toArray, List.map_cons, List.map_nil]); first | done | rfl | (simp only [List.length_drop, List.length_take]; rfl)) ?_; (with_reducible refine (impl_GjQuery.calls a0 t115 t116 t117 t118 t119 t120 true _ A4.out).mono ?_); rintro e w7 ⟨rfl, hb⟩; refine ⟨_, rfl, ?_⟩; have n0_ := Aside0.mk (below_step (by repeat (first | (with_reducible first | exact HB.out | apply below_alloc | apply pw_below_drewN | apply below_drew1) | exact HB.out)) hb); clear HB; have HB := n0_; clear n0_; (try clear hb); (try clear hb2); (try clear hk); (try clear hi)))
    (try simp only [Act.put, List.setIfInBounds_toArray, List.set_cons_zero, List.set_cons_succ])
    go_cut [69] (fun v69 wc => ∃ (kq : Nat) (x69_5 : Bool), v69 = .bool x69_5 ∧ Aside0 (laws_FnGjQueryAny.j0 kq a0 t119 x69_5 = some r) ∧ Aside0 (kq ≤ k) ∧ Aside0 (Below w.heap.size w wc))
    case first =>
     have H := HC6.out
     clear HC6
     by_cases c8 : (a0.size : Int) < 3
     ·
      rw [if_pos c8] at H
      have c8b0 : decide ((a0.size : Int) < 3) = true := decide_eq_true c8
      have c8b1 : decide (a0.size < 3) = true := decide_eq_true (by omega)
      clear c8
      (first | rw [c8b0] | (simp only [i64_w, i32_w]; rw [c8b0]) | skip)
      have H' := Aside0.mk H
      clear H
      go_wp2
      go_meet
      case rel => exact ⟨_, (true), (by first | rfl | (simp; done) | (simp [*]; done)), H', ⟨by first | omega | exact Nat.le_refl _⟩, ⟨by repeat (first | (with_reducible first | exact HB.out | apply below_alloc | apply pw_below_drewN | apply below_drew1) | exact HB.out)⟩⟩
     ·
      rw [if_neg c8] at H
      have c8b0 : decide ((a0.size : Int) < 3) = false := decide_eq_false c8
      have c8b1 : decide (a0.size < 3) = false := decide_eq_false (by omega)
      clear c8
      (first | rw [c8b0] | (simp only [i64_w, i32_w]; rw [c8b0]) | skip)
      by_cases c9 : 0 < (a0.size : Int)
      ·
       rw [if_pos c9] at H
       have c9b0 : decide (0 < (a0.size : Int)) = true := decide_eq_true c9
       have c9b1 : decide (0 < a0.size) = true := decide_eq_true (by omega)
       clear c9
       by_cases c11 : (bt a0 0) = 35
       ·
        rw [if_pos c11] at H
        have c11b0 : ((bt a0 0) == 35) = true := beq_iff_eq.mpr c11
        have c11b1 : ((bt a0 0) != 35) = false := bne_eq_false_iff_eq.mpr c11
        clear c11
        by_cases c12 : 1 < (a0.size : Int)
        ·
         rw [if_pos c12] at H
         have c12b0 : decide (1 < (a0.size : Int)) = true := decide_eq_true c12
         have c12b1 : decide (1 < a0.size) = true := decide_eq_true (by omega)
         clear c12
         by_cases c14 : (bt a0 1) = 40
         ·
          rw [if_pos c14] at H
          have c14b0 : ((bt a0 1) == 40) = true := beq_iff_eq.mpr c14
          have c14b1 : ((bt a0 1) != 40) = false := bne_eq_false_iff_eq.mpr c14
          clear c14
          by_cases c15 : t119 < 3
          ·
           rw [if_pos c15] at H
           have c15b0 : decide (t119 < 3) = true := decide_eq_true c15
           clear c15
           have H' := Aside0.mk H
           clear H
           have p10 : 0 ≤ (0 : Int) := (by omega)
           have q10 : 0 < a0.size := (by have : (0 : Int) < (a0.size : Int) := of_decide_eq_true (by first | (with_reducible assumption) | assumption); omega)
           have hx10 : ∀ h : 0 < a0.size, ((a0[0]'h).toNat : Int) = bt a0 0 := bt_at a0 0
           clear p10
           have qi10 : (0 < (a0.size : Int)) = True := eq_true (of_decide_eq_true (by first | (with_reducible assumption) | assumption))
           replace q10 := eq_true q10
           have p13 : 0 ≤ (1 : Int) := (by omega)
           have q13 : 1 < a0.size := (by have : (1 : Int) < (a0.size : Int) := of_decide_eq_true (by first | (with_reducible assumption) | assumption); omega)
           have hx13 : ∀ h : 1 < a0.size, ((a0[1]'h).toNat : Int) = bt a0 1 := bt_at a0 1
           clear p13
           have qi13 : (1 < (a0.size : Int)) = True := eq_true (of_decide_eq_true (by first | (with_reducible assumption) | assumption))
           replace q13 := eq_true q13
           go_wp2
           go_meet
           case rel => exact ⟨_, (true), (by first | rfl | (simp; done) | (simp [*]; done)), H', ⟨by first | omega | exact Nat.le_refl _⟩, ⟨by repeat (first | (with_reducible first | exact HB.out | apply below_alloc | apply pw_below_drewN | apply below_drew1) | exact HB.out)⟩⟩
          ·
           rw [if_neg c15] at H
           have c15b0 : decide (t119 < 3) = false := decide_eq_false c15
           clear c15
           by_cases c16 : t119 > (a0.size : Int)
           ·
            rw [if_pos c16] at H
            have c16b0 : decide ((a0.size : Int) < t119) = true := decide_eq_true c16
            clear c16
            have H' := Aside0.mk H
            clear H
            have p10 : 0 ≤ (0 : Int) := (by omega)
            have q10 : 0 < a0.size := (by have : (0 : Int) < (a0.size : Int) := of_decide_eq_true (by first | (with_reducible assumption) | assumption); omega)
            have hx10 : ∀ h : 0 < a0.size, ((a0[0]'h).toNat : Int) = bt a0 0 := bt_at a0 0
            clear p10
            have qi10 : (0 < (a0.size : Int)) = True := eq_true (of_decide_eq_true (by first | (with_reducible assumption) | assumption))
            replace q10 := eq_true q10
            have p13 : 0 ≤ (1 : Int) := (by omega)
            have q13 : 1 < a0.size := (by have : (1 : Int) < (a0.size : Int) := of_decide_eq_true (by first | (with_reducible assumption) | assumption); omega)
            have hx13 : ∀ h : 1 < a0.size, ((a0[1]'h).toNat : Int) = bt a0 1 := bt_at a0 1
            clear p13
            have qi13 : (1 < (a0.size : Int)) = True := eq_true (of_decide_eq_true (by first | (with_reducible assumption) | assumption))
            replace q13 := eq_true q13
            go_wp2
            go_meet
            case rel => exact ⟨_, (true), (by first | rfl | (simp; done) | (simp [*]; done)), H', ⟨by first | omega | exact Nat.le_refl _⟩, ⟨by repeat (first | (with_reducible first | exact HB.out | apply below_alloc | apply pw_below_drewN | apply below_drew1) | exact HB.out)⟩⟩
           ·
            rw [if_neg c16] at H
            have c16b0 : decide ((a0.size : Int) < t119) = false := decide_eq_false c16
            clear c16
            by_cases c17 : 0 ≤ t119
            ·
             rw [if_pos c17] at H
             have c17b0 := eq_true c17
             have c17b1 : decide (0 ≤ t119) = true := decide_eq_true c17
             clear c17
             by_cases c18 : t119 ≤ (a0.size : Int)
             ·
              rw [if_pos c18] at H
              have c18b0 := eq_true c18
              have c18b1 : decide (t119 ≤ (a0.size : Int)) = true := decide_eq_true c18
              clear c18
              have H' := Aside0.mk H
              clear H
              have p10 : 0 ≤ (0 : Int) := (by omega)
              have q10 : 0 < a0.size := (by have : (0 : Int) < (a0.size : Int) := of_decide_eq_true (by first | (with_reducible assumption) | assumption); omega)
              have hx10 : ∀ h : 0 < a0.size, ((a0[0]'h).toNat : Int) = bt a0 0 := bt_at a0 0
              clear p10
              have qi10 : (0 < (a0.size : Int)) = True := eq_true (of_decide_eq_true (by first | (with_reducible assumption) | assumption))
              replace q10 := eq_true q10
              have p13 : 0 ≤ (1 : Int) := (by omega)
              have q13 : 1 < a0.size := (by have : (1 : Int) < (a0.size : Int) := of_decide_eq_true (by first | (with_reducible assumption) | assumption); omega)
              have hx13 : ∀ h : 1 < a0.size, ((a0[1]'h).toNat : Int) = bt a0 1 := bt_at a0 1
              clear p13
              have qi13 : (1 < (a0.size : Int)) = True := eq_true (of_decide_eq_true (by first | (with_reducible assumption) | assumption))
              replace q13 := eq_true q13
              go_wp2
              go_meet
              case rel => exact ⟨_, ((t118.toList != (a0.extract (t119 : Int).toNat a0.size).toList)), (by first | rfl | (simp; done) | (simp [*]; done)), H', ⟨by first | omega | exact Nat.le_refl _⟩, ⟨by repeat (first | (with_reducible first | exact HB.out | apply below_alloc | apply pw_below_drewN | apply below_drew1) | exact HB.out)⟩⟩
             ·
              rw [if_neg c18] at H
              exact absurd H (by simp)
            ·
             rw [if_neg c17] at H
             exact absurd H (by simp)
         ·
          rw [if_neg c14] at H
          have c14b0 : ((bt a0 1) == 40) = false := beq_eq_false_iff_ne.mpr c14
          have c14b1 : ((bt a0 1) != 40) = true := bne_iff_ne.mpr c14
          by_cases c20 : (bt a0 1) = 91
          ·
           rw [if_pos c20] at H
           have c20b0 : ((bt a0 1) == 91) = true := beq_iff_eq.mpr c20
           have c20b1 : ((bt a0 1) != 91) = false := bne_eq_false_iff_eq.mpr c20
           clear c20
           by_cases c21 : t119 < 3
           ·
            rw [if_pos c21] at H
            have c21b0 : decide (t119 < 3) = true := decide_eq_true c21
            clear c21
            have H' := Aside0.mk H
            clear H
            have p10 : 0 ≤ (0 : Int) := (by omega)
            have q10 : 0 < a0.size := (by have : (0 : Int) < (a0.size : Int) := of_decide_eq_true (by first | (with_reducible assumption) | assumption); omega)
            have hx10 : ∀ h : 0 < a0.size, ((a0[0]'h).toNat : Int) = bt a0 0 := bt_at a0 0
            clear p10
            have qi10 : (0 < (a0.size : Int)) = True := eq_true (of_decide_eq_true (by first | (with_reducible assumption) | assumption))
            replace q10 := eq_true q10
            have p13 : 0 ≤ (1 : Int) := (by omega)
            have q13 : 1 < a0.size := (by have : (1 : Int) < (a0.size : Int) := of_decide_eq_true (by first | (with_reducible assumption) | assumption); omega)
            have hx13 : ∀ h : 1 < a0.size, ((a0[1]'h).toNat : Int) = bt a0 1 := bt_at a0 1
            clear p13
            have qi13 : (1 < (a0.size : Int)) = True := eq_true (of_decide_eq_true (by first | (with_reducible assumption) | assumption))
            replace q13 := eq_true q13
            have p19 : 0 ≤ (1 : Int) := (by omega)
            have q19 : 1 < a0.size := (by have : (1 : Int) < (a0.size : Int) := of_decide_eq_true (by first | (with_reducible assumption) | assumption); omega)
            have hx19 : ∀ h : 1 < a0.size, ((a0[1]'h).toNat : Int) = bt a0 1 := bt_at a0 1
            clear p19
            have qi19 : (1 < (a0.size : Int)) = True := eq_true (of_decide_eq_true (by first | (with_reducible assumption) | assumption))
            replace q19 := eq_true q19
            go_wp2
            go_meet
            case rel => exact ⟨_, (true), (by first | rfl | (simp; done) | (simp [*]; done)), H', ⟨by first | omega | exact Nat.le_refl _⟩, ⟨by repeat (first | (with_reducible first | exact HB.out | apply below_alloc | apply pw_below_drewN | apply below_drew1) | exact HB.out)⟩⟩
           ·
            rw [if_neg c21] at H
            have c21b0 : decide (t119 < 3) = false := decide_eq_false c21
            clear c21
            by_cases c22 : t119 > (a0.size : Int)
            ·
             rw [if_pos c22] at H
             have c22b0 : decide ((a0.size : Int) < t119) = true := decide_eq_true c22
             clear c22
             have H' := Aside0.mk H
             clear H
             have p10 : 0 ≤ (0 : Int) := (by omega)
             have q10 : 0 < a0.size := (by have : (0 : Int) < (a0.size : Int) := of_decide_eq_true (by first | (with_reducible assumption) | assumption); omega)
             have hx10 : ∀ h : 0 < a0.size, ((a0[0]'h).toNat : Int) = bt a0 0 := bt_at a0 0
             clear p10
             have qi10 : (0 < (a0.size : Int)) = True := eq_true (of_decide_eq_true (by first | (with_reducible assumption) | assumption))
             replace q10 := eq_true q10
             have p13 : 0 ≤ (1 : Int) := (by omega)
             have q13 : 1 < a0.size := (by have : (1 : Int) < (a0.size : Int) := of_decide_eq_true (by first | (with_reducible assumption) | assumption); omega)
             have hx13 : ∀ h : 1 < a0.size, ((a0[1]'h).toNat : Int) = bt a0 1 := bt_at a0 1
             clear p13
             have qi13 : (1 < (a0.size : Int)) = True := eq_true (of_decide_eq_true (by first | (with_reducible assumption) | assumption))
             replace q13 := eq_true q13
             have p19 : 0 ≤ (1 : Int) := (by omega)
             have q19 : 1 < a0.size := (by have : (1 : Int) < (a0.size : Int) := of_decide_eq_true (by first | (with_reducible assumption) | assumption); omega)
             have hx19 : ∀ h : 1 < a0.size, ((a0[1]'h).toNat : Int) = bt a0 1 := bt_at a0 1
             clear p19
             have qi19 : (1 < (a0.size : Int)) = True := eq_true (of_decide_eq_true (by first | (with_reducible assumption) | assumption))
             replace q19 := eq_true q19
             go_wp2
             go_meet
             case rel => exact ⟨_, (true), (by first | rfl | (simp; done) | (simp [*]; done)), H', ⟨by first | omega | exact Nat.le_refl _⟩, ⟨by repeat (first | (with_reducible first | exact HB.out | apply below_alloc | apply pw_below_drewN | apply below_drew1) | exact HB.out)⟩⟩
            ·
             rw [if_neg c22] at H
             have c22b0 : decide ((a0.size : Int) < t119) = false := decide_eq_false c22
             clear c22
             by_cases c23 : 0 ≤ t119
             ·
              rw [if_pos c23] at H
              have c23b0 := eq_true c23
              have c23b1 : decide (0 ≤ t119) = true := decide_eq_true c23
              clear c23
              by_cases c24 : t119 ≤ (a0.size : Int)
              ·
               rw [if_pos c24] at H
               have c24b0 := eq_true c24
               have c24b1 : decide (t119 ≤ (a0.size : Int)) = true := decide_eq_true c24
               clear c24
               have H' := Aside0.mk H
               clear H
               have p10 : 0 ≤ (0 : Int) := (by omega)
               have q10 : 0 < a0.size := (by have : (0 : Int) < (a0.size : Int) := of_decide_eq_true (by first | (with_reducible assumption) | assumption); omega)
               have hx10 : ∀ h : 0 < a0.size, ((a0[0]'h).toNat : Int) = bt a0 0 := bt_at a0 0
               clear p10
               have qi10 : (0 < (a0.size : Int)) = True := eq_true (of_decide_eq_true (by first | (with_reducible assumption) | assumption))
               replace q10 := eq_true q10
               have p13 : 0 ≤ (1 : Int) := (by omega)
               have q13 : 1 < a0.size := (by have : (1 : Int) < (a0.size : Int) := of_decide_eq_true (by first | (with_reducible assumption) | assumption); omega)
               have hx13 : ∀ h : 1 < a0.size, ((a0[1]'h).toNat : Int) = bt a0 1 := bt_at a0 1
               clear p13
               have qi13 : (1 < (a0.size : Int)) = True := eq_true (of_decide_eq_true (by first | (with_reducible assumption) | assumption))
               replace q13 := eq_true q13
               have p19 : 0 ≤ (1 : Int) := (by omega)
               have q19 : 1 < a0.size := (by have : (1 : Int) < (a0.size : Int) := of_decide_eq_true (by first | (with_reducible assumption) | assumption); omega)
               have hx19 : ∀ h : 1 < a0.size, ((a0[1]'h).toNat : Int) = bt a0 1 := bt_at a0 1
               clear p19
               have qi19 : (1 < (a0.size : Int)) = True := eq_true (of_decide_eq_true (by first | (with_reducible assumption) | assumption))
               replace q19 := eq_true q19
               go_wp2
               go_meet
               case rel => exact ⟨_, ((t118.toList != (a0.extract (t119 : Int).toNat a0.size).toList)), (by first | rfl | (simp; done) | (simp [*]; done)), H', ⟨by first | omega | exact Nat.le_refl _⟩, ⟨by repeat (first | (with_reducible first | exact HB.out | apply below_alloc | apply pw_below_drewN | apply below_drew1) | exact HB.out)⟩⟩
              ·
               rw [if_neg c24] at H
               exact absurd H (by simp)
             ·
              rw [if_neg c23] at H
              exact absurd H (by simp)
          ·
           rw [if_neg c20] at H
           have c20b0 : ((bt a0 1) == 91) = false := beq_eq_false_iff_ne.mpr c20
           have c20b1 : ((bt a0 1) != 91) = true := bne_iff_ne.mpr c20
           have H' := Aside0.mk H
           clear H
           have p10 : 0 ≤ (0 : Int) := (by omega)
           have q10 : 0 < a0.size := (by have : (0 : Int) < (a0.size : Int) := of_decide_eq_true (by first | (with_reducible assumption) | assumption); omega)
           have hx10 : ∀ h : 0 < a0.size, ((a0[0]'h).toNat : Int) = bt a0 0 := bt_at a0 0
           clear p10
           have qi10 : (0 < (a0.size : Int)) = True := eq_true (of_decide_eq_true (by first | (with_reducible assumption) | assumption))
           replace q10 := eq_true q10
           have p13 : 0 ≤ (1 : Int) := (by omega)
           have q13 : 1 < a0.size := (by have : (1 : Int) < (a0.size : Int) := of_decide_eq_true (by first | (with_reducible assumption) | assumption); omega)
           have hx13 : ∀ h : 1 < a0.size, ((a0[1]'h).toNat : Int) = bt a0 1 := bt_at a0 1
           clear p13
           have qi13 : (1 < (a0.size : Int)) = True := eq_true (of_decide_eq_true (by first | (with_reducible assumption) | assumption))
           replace q13 := eq_true q13
           have p19 : 0 ≤ (1 : Int) := (by omega)
           have q19 : 1 < a0.size := (by have : (1 : Int) < (a0.size : Int) := of_decide_eq_true (by first | (with_reducible assumption) | assumption); omega)
           have hx19 : ∀ h : 1 < a0.size, ((a0[1]'h).toNat : Int) = bt a0 1 := bt_at a0 1
           clear p19
           have qi19 : (1 < (a0.size : Int)) = True := eq_true (of_decide_eq_true (by first | (with_reducible assumption) | assumption))
           replace q19 := eq_true q19
           go_wp2
           go_meet
           case rel => exact ⟨_, (true), (by first | rfl | (simp; done) | (simp [*]; done)), H', ⟨by first | omega | exact Nat.le_refl _⟩, ⟨by repeat (first | (with_reducible first | exact HB.out | apply below_alloc | apply pw_below_drewN | apply below_drew1) | exact HB.out)⟩⟩
        ·
         rw [if_neg c12] at H
         exact absurd H (by simp)
       ·
        rw [if_neg c11] at H
        have c11b0 : ((bt a0 0) == 35) = false := beq_eq_false_iff_ne.mpr c11
        have c11b1 : ((bt a0 0) != 35) = true := bne_iff_ne.mpr c11
        have H' := Aside0.mk H
        clear H
        have p10 : 0 ≤ (0 : Int) := (by omega)
        have q10 : 0 < a0.size := (by have : (0 : Int) < (a0.size : Int) := of_decide_eq_true (by first | (with_reducible assumption) | assumption); omega)
        have hx10 : ∀ h : 0 < a0.size, ((a0[0]'h).toNat : Int) = bt a0 0 := bt_at a0 0
        clear p10
        have qi10 : (0 < (a0.size : Int)) = True := eq_true (of_decide_eq_true (by first | (with_reducible assumption) | assumption))
        replace q10 := eq_true q10
        go_wp2
        go_meet
        case rel => exact ⟨_, (true), (by first | rfl | (simp; done) | (simp [*]; done)), H', ⟨by first | omega | exact Nat.le_refl _⟩, ⟨by repeat (first | (with_reducible first | exact HB.out | apply below_alloc | apply pw_below_drewN | apply below_drew1) | exact HB.out)⟩⟩
      ·
       rw [if_neg c9] at H
       exact absurd H (by simp)
    case rest =>
     clear HC6
     (try clear c1); (try clear p1); (try clear q1); (try clear hx1); (try clear qi1); (try clear c2); (try clear c2b0); (try clear c2b1); (try clear p2); (try clear c3); (try clear c3b0); (try clear c3b1); (try clear c5); (try clear c8); (try clear c8b0); (try clear c8b1); (try clear c9); (try clear c9b0); (try clear c9b1); (try clear p10); (try clear q10); (try clear hx10); (try clear qi10); (try clear c11); (try clear c11b0); (try clear c11b1); (try clear c12); (try clear c12b0); (try clear c12b1); (try clear p13); (try clear q13); (try clear hx13); (try clear qi13); (try clear c14); (try clear c14b0); (try clear c14b1); (try clear c15); (try clear c15b0); (try clear c16); (try clear c16b0); (try clear c17); (try clear c17b0); (try clear c17b1); (try clear c18); (try clear c18b0); (try clear c18b1); (try clear p19); (try clear q19); (try clear hx19); (try clear qi19); (try clear c20); (try clear c20b0); (try clear c20b1); (try clear c21); (try clear c21b0); (try clear c22); (try clear c22b0); (try clear c23); (try clear c23b0); (try clear c23b1); (try clear c24); (try clear c24b0); (try clear c24b1); (try clear p10); (try clear p13); (try clear p19); (try clear q10); (try clear q13); (try clear q19)
     obtain ⟨kq, x69_5, rfl, HA, HJ5, HB⟩ := hcut
     cases kq with
     | zero => exact absurd HA.out (by simp [laws_FnGjQueryAny.j0])
     | succ kj5 =>
      have H := HA.out
      clear HA
      simp only [laws_FnGjQueryAny.j0] at H
      by_cases c25 : x69_5 = true
      ·
       subst c25
       have H1 : (some false) = some r := by rw [if_pos rfl] at H; exact H
       clear H
       have H := H1
       clear H1
       obtain rfl := Option.some.inj H
       go_wp2
       go_ret
       exact ⟨by first | rfl | (simp [errW_none, errW_some] <;> rfl) | (simp [*, errW_none, errW_some] <;> rfl), by repeat (first | (with_reducible first | exact HB.out | apply below_alloc | apply pw_below_drewN | apply below_drew1) | exact HB.out)⟩
      ·
       replace c25 := Bool.eq_false_iff.mpr c25
       subst c25
       have H1 : (if 0 ≤ (wrap64 (t119 - 1)) then (if (wrap64 (t119 - 1)) < (a0.size : Int) then (if (bt a0 (wrap64 (t119 - 1))) = 41 then ((impl_GjQuery.f (⟨#[35, 40, 97, 41]⟩ : ByteArray)).bind fun bt122 => (if bt122.2.2.2.2.2.2 = true then (some (bt122.1.toList == ([97] : List UInt8))) else (some false))) else (if (bt a0 (wrap64 (t119 - 1))) = 93 then ((impl_GjQuery.f (⟨#[35, 40, 97, 41]⟩ : ByteArray)).bind fun bt129 => (if bt129.2.2.2.2.2.2 = true then (some (bt129.1.toList == ([97] : List UInt8))) else (some false))) else (some false))) else (none)) else (none)) = some r := by rw [if_neg (show ¬ (false = true) by decide)] at H; exact H
       clear H
       have H := H1
       clear H1
       obtain ⟨ji26, hji26⟩ : ∃ j_ : Int, (wrap64 (t119 - 1)) = j_ := ⟨_, rfl⟩
       replace H : (if 0 ≤ (ji26) then (if (ji26) < (a0.size : Int) then (if (bt a0 (ji26)) = 41 then ((impl_GjQuery.f (⟨#[35, 40, 97, 41]⟩ : ByteArray)).bind fun bt122 => (if bt122.2.2.2.2.2.2 = true then (some (bt122.1.toList == ([97] : List UInt8))) else (some false))) else (if (bt a0 (ji26)) = 93 then ((impl_GjQuery.f (⟨#[35, 40, 97, 41]⟩ : ByteArray)).bind fun bt129 => (if bt129.2.2.2.2.2.2 = true then (some (bt129.1.toList == ([97] : List UInt8))) else (some false))) else (some false))) else (none)) else (none)) = some r := by first | (rw [hji26] at H; exact H) | (simp only [hji26] at H ⊢; exact H)
       have hji26w : (IntKind.i64.wrap (t119 - 1)) = ji26 := (i64_w _).trans hji26
       by_cases c27 : 0 ≤ (ji26)
       ·
        rw [if_pos c27] at H
        have c27b0 : decide (0 ≤ (ji26)) = true := decide_eq_true c27
        clear c27
        by_cases c28 : (ji26) < (a0.size : Int)
        ·
         rw [if_pos c28] at H
         have c28b0 : decide ((ji26) < (a0.size : Int)) = true := decide_eq_true c28
         clear c28
         by_cases c30 : (bt a0 (ji26)) = 41
         ·
          rw [if_pos c30] at H
          have c30b0 : ((bt a0 (ji26)) == 41) = true := beq_iff_eq.mpr c30
          have c30b1 : ((bt a0 (ji26)) != 41) = false := bne_eq_false_iff_eq.mpr c30
          clear c30
          replace H := Option.bind_eq_some_iff.mp H
          obtain ⟨⟨t122, t123, t124, t125, t126, t127, t128⟩, A310, H⟩ := H
          replace H : (if t128 = true then (some (t122.toList == ([97] : List UInt8))) else (some false)) = some r := H
          have A31 := Aside0.mk A310
          clear A310
          by_cases c32 : t128 = true
          ·
           subst c32
           have H1 : (some (t122.toList == ([97] : List UInt8))) = some r := by rw [if_pos rfl] at H; exact H
           clear H
           have H := H1
           clear H1
           obtain rfl := Option.some.inj H
           have p29 : 0 ≤ ((ji26) : Int) := of_decide_eq_true (by first | (with_reducible assumption) | assumption)
           have q29 : (ji26) < (a0.size : Int) := of_decide_eq_true (by first | (with_reducible assumption) | assumption)
           have hx29 := bt_at a0 (ji26)
           replace p29 := eq_true p29
           replace q29 := eq_true q29
           go_wp2_with (first | ((with_reducible refine gate_callee (f := 24) rfl ?_); refine goesL_ (some 81) rfl rfl Try.func24 (by kernel_rfl) rfl #[.string (⟨#[35, 40, 97, 41]⟩ : ByteArray)] rfl (by (try simp only [List.map_toArray, List.map_cons, List.map_nil]); first | done | rfl | (simp only [List.length_drop, List.length_take]; rfl)) ?_; (with_reducible refine (impl_GjQuery.calls (⟨#[35, 40, 97, 41]⟩ : ByteArray) t122 t123 t124 t125 t126 t127 true _ A31.out).mono ?_); rintro e w33 ⟨rfl, hb⟩; refine ⟨_, rfl, ?_⟩; have n0_ := Aside0.mk (below_step (by repeat (first | (with_reducible first | exact HB.out | apply below_alloc | apply pw_below_drewN | apply below_drew1) | exact HB.out)) hb); clear HB; have HB := n0_; clear n0_; (try clear hb); (try clear hb2); (try clear hk); (try clear hi)))
           go_ret
           exact ⟨by first | rfl | (simp [errW_none, errW_some] <;> rfl) | (simp only [← hji26]; first | rfl | (simp [errW_none, errW_some] <;> rfl)) | (simp [*, errW_none, errW_some] <;> rfl), by repeat (first | (with_reducible first | exact HB.out | apply below_alloc | apply pw_below_drewN | apply below_drew1) | exact HB.out)⟩
          ·
           replace c32 := Bool.eq_false_iff.mpr c32
           subst c32
           have H1 : (some false) = some r := by rw [if_neg (show ¬ (false = true) by decide)] at H; exact H
           clear H
           have H := H1
           clear H1
           obtain rfl := Option.some.inj H
           have p29 : 0 ≤ ((ji26) : Int) := of_decide_eq_true (by first | (with_reducible assumption) | assumption)
           have q29 : (ji26) < (a0.size : Int) := of_decide_eq_true (by first | (with_reducible assumption) | assumption)
           have hx29 := bt_at a0 (ji26)
           replace p29 := eq_true p29
           replace q29 := eq_true q29
           go_wp2_with (first | ((with_reducible refine gate_callee (f := 24) rfl ?_); refine goesL_ (some 81) rfl rfl Try.func24 (by kernel_rfl) rfl #[.string (⟨#[35, 40, 97, 41]⟩ : ByteArray)] rfl (by (try simp only [List.map_toArray, List.map_cons, List.map_nil]); first | done | rfl | (simp only [List.length_drop, List.length_take]; rfl)) ?_; (with_reducible refine (impl_GjQuery.calls (⟨#[35, 40, 97, 41]⟩ : ByteArray) t122 t123 t124 t125 t126 t127 false _ A31.out).mono ?_); rintro e w34 ⟨rfl, hb⟩; refine ⟨_, rfl, ?_⟩; have n0_ := Aside0.mk (below_step (by repeat (first | (with_reducible first | exact HB.out | apply below_alloc | apply pw_below_drewN | apply below_drew1) | exact HB.out)) hb); clear HB; have HB := n0_; clear n0_; (try clear hb); (try clear hb2); (try clear hk); (try clear hi)))
           go_ret
           exact ⟨by first | rfl | (simp [errW_none, errW_some] <;> rfl) | (simp only [← hji26]; first | rfl | (simp [errW_none, errW_some] <;> rfl)) | (simp [*, errW_none, errW_some] <;> rfl), by repeat (first | (with_reducible first | exact HB.out | apply below_alloc | apply pw_below_drewN | apply below_drew1) | exact HB.out)⟩
         ·
          rw [if_neg c30] at H
          have c30b0 : ((bt a0 (ji26)) == 41) = false := beq_eq_false_iff_ne.mpr c30
          have c30b1 : ((bt a0 (ji26)) != 41) = true := bne_iff_ne.mpr c30
          by_cases c35 : (bt a0 (ji26)) = 93
          ·
           rw [if_pos c35] at H
           have c35b0 : ((bt a0 (ji26)) == 93) = true := beq_iff_eq.mpr c35
           have c35b1 : ((bt a0 (ji26)) != 93) = false := bne_eq_false_iff_eq.mpr c35
           clear c35
           replace H := Option.bind_eq_some_iff.mp H
           obtain ⟨⟨t129, t130, t131, t132, t133, t134, t135⟩, A360, H⟩ := H
           replace H : (if t135 = true then (some (t129.toList == ([97] : List UInt8))) else (some false)) = some r := H
           have A36 := Aside0.mk A360
           clear A360
           by_cases c37 : t135 = true
           ·
            subst c37
            have H1 : (some (t129.toList == ([97] : List UInt8))) = some r := by rw [if_pos rfl] at H; exact H
            clear H
            have H := H1
            clear H1
            obtain rfl := Option.some.inj H
            have p29 : 0 ≤ ((ji26) : Int) := of_decide_eq_true (by first | (with_reducible assumption) | assumption)
            have q29 : (ji26) < (a0.size : Int) := of_decide_eq_true (by first | (with_reducible assumption) | assumption)
            have hx29 := bt_at a0 (ji26)
            replace p29 := eq_true p29
            replace q29 := eq_true q29
            go_wp2_with (first | ((with_reducible refine gate_callee (f := 24) rfl ?_); refine goesL_ (some 81) rfl rfl Try.func24 (by kernel_rfl) rfl #[.string (⟨#[35, 40, 97, 41]⟩ : ByteArray)] rfl (by (try simp only [List.map_toArray, List.map_cons, List.map_nil]); first | done | rfl | (simp only [List.length_drop, List.length_take]; rfl)) ?_; (with_reducible refine (impl_GjQuery.calls (⟨#[35, 40, 97, 41]⟩ : ByteArray) t129 t130 t131 t132 t133 t134 true _ A36.out).mono ?_); rintro e w38 ⟨rfl, hb⟩; refine ⟨_, rfl, ?_⟩; have n0_ := Aside0.mk (below_step (by repeat (first | (with_reducible first | exact HB.out | apply below_alloc | apply pw_below_drewN | apply below_drew1) | exact HB.out)) hb); clear HB; have HB := n0_; clear n0_; (try clear hb); (try clear hb2); (try clear hk); (try clear hi)))
            go_ret
            exact ⟨by first | rfl | (simp [errW_none, errW_some] <;> rfl) | (simp only [← hji26]; first | rfl | (simp [errW_none, errW_some] <;> rfl)) | (simp [*, errW_none, errW_some] <;> rfl), by repeat (first | (with_reducible first | exact HB.out | apply below_alloc | apply pw_below_drewN | apply below_drew1) | exact HB.out)⟩
           ·
            replace c37 := Bool.eq_false_iff.mpr c37
            subst c37
            have H1 : (some false) = some r := by rw [if_neg (show ¬ (false = true) by decide)] at H; exact H
            clear H
            have H := H1
            clear H1
            obtain rfl := Option.some.inj H
            have p29 : 0 ≤ ((ji26) : Int) := of_decide_eq_true (by first | (with_reducible assumption) | assumption)
            have q29 : (ji26) < (a0.size : Int) := of_decide_eq_true (by first | (with_reducible assumption) | assumption)
            have hx29 := bt_at a0 (ji26)
            replace p29 := eq_true p29
            replace q29 := eq_true q29
            go_wp2_with (first | ((with_reducible refine gate_callee (f := 24) rfl ?_); refine goesL_ (some 81) rfl rfl Try.func24 (by kernel_rfl) rfl #[.string (⟨#[35, 40, 97, 41]⟩ : ByteArray)] rfl (by (try simp only [List.map_toArray, List.map_cons, List.map_nil]); first | done | rfl | (simp only [List.length_drop, List.length_take]; rfl)) ?_; (with_reducible refine (impl_GjQuery.calls (⟨#[35, 40, 97, 41]⟩ : ByteArray) t129 t130 t131 t132 t133 t134 false _ A36.out).mono ?_); rintro e w39 ⟨rfl, hb⟩; refine ⟨_, rfl, ?_⟩; have n0_ := Aside0.mk (below_step (by repeat (first | (with_reducible first | exact HB.out | apply below_alloc | apply pw_below_drewN | apply below_drew1) | exact HB.out)) hb); clear HB; have HB := n0_; clear n0_; (try clear hb); (try clear hb2); (try clear hk); (try clear hi)))
            go_ret
            exact ⟨by first | rfl | (simp [errW_none, errW_some] <;> rfl) | (simp only [← hji26]; first | rfl | (simp [errW_none, errW_some] <;> rfl)) | (simp [*, errW_none, errW_some] <;> rfl), by repeat (first | (with_reducible first | exact HB.out | apply below_alloc | apply pw_below_drewN | apply below_drew1) | exact HB.out)⟩
          ·
           rw [if_neg c35] at H
           have c35b0 : ((bt a0 (ji26)) == 93) = false := beq_eq_false_iff_ne.mpr c35
           have c35b1 : ((bt a0 (ji26)) != 93) = true := bne_iff_ne.mpr c35
           obtain rfl := Option.some.inj H
           have p29 : 0 ≤ ((ji26) : Int) := of_decide_eq_true (by first | (with_reducible assumption) | assumption)
           have q29 : (ji26) < (a0.size : Int) := of_decide_eq_true (by first | (with_reducible assumption) | assumption)
           have hx29 := bt_at a0 (ji26)
           replace p29 := eq_true p29
           replace q29 := eq_true q29
           go_wp2
           go_ret
           exact ⟨by first | rfl | (simp [errW_none, errW_some] <;> rfl) | (simp only [← hji26]; first | rfl | (simp [errW_none, errW_some] <;> rfl)) | (simp [*, errW_none, errW_some] <;> rfl), by repeat (first | (with_reducible first | exact HB.out | apply below_alloc | apply pw_below_drewN | apply below_drew1) | exact HB.out)⟩
        ·
         rw [if_neg c28] at H
         exact absurd H (by simp)
       ·
        rw [if_neg c27] at H
        exact absurd H (by simp)
   ·
    replace c5 := Bool.eq_false_iff.mpr c5
    subst c5
    have H1 : ((impl_GjQuery.f (⟨#[35, 40, 97, 41]⟩ : ByteArray)).bind fun bt136 => (if bt136.2.2.2.2.2.2 = true then (some (bt136.1.toList == ([97] : List UInt8))) else (some false))) = some r := by rw [if_neg (show ¬ (false = true) by decide)] at H; exact H
    clear H
    have H := H1
    clear H1
    replace H := Option.bind_eq_some_iff.mp H
    obtain ⟨⟨t136, t137, t138, t139, t140, t141, t142⟩, A400, H⟩ := H
    replace H : (if t142 = true then (some (t136.toList == ([97] : List UInt8))) else (some false)) = some r := H
    have A40 := Aside0.mk A400
    clear A400
    by_cases c41 : t142 = true
    ·
     subst c41
     have H1 : (some (t136.toList == ([97] : List UInt8))) = some r := by rw [if_pos rfl] at H; exact H
     clear H
     have H := H1
     clear H1
     obtain rfl := Option.some.inj H
     go_enter Try.func8, Try.ntmps8
     go_wp2_with (first | ((with_reducible refine gate_callee (f := 24) rfl ?_); refine goesL_ (some 26) rfl rfl Try.func24 (by kernel_rfl) rfl #[.string a0] rfl (by (try simp only [List.map_toArray, List.map_cons, List.map_nil]); first | done | rfl | (simp only [List.length_drop, List.length_take]; rfl)) ?_; (with_reducible refine (impl_GjQuery.calls a0 t115 t116 t117 t118 t119 t120 false _ A4.out).mono ?_); rintro e w42 ⟨rfl, hb⟩; refine ⟨_, rfl, ?_⟩; have n0_ := Aside0.mk (below_step (by repeat (first | (with_reducible first | exact HB.out | apply below_alloc | apply pw_below_drewN | apply below_drew1) | exact HB.out)) hb); clear HB; have HB := n0_; clear n0_; (try clear hb); (try clear hb2); (try clear hk); (try clear hi)) | ((with_reducible refine gate_callee (f := 24) rfl ?_); refine goesL_ (some 81) rfl rfl Try.func24 (by kernel_rfl) rfl #[.string (⟨#[35, 40, 97, 41]⟩ : ByteArray)] rfl (by (try simp only [List.map_toArray, List.map_cons, List.map_nil]); first | done | rfl | (simp only [List.length_drop, List.length_take]; rfl)) ?_; (with_reducible refine (impl_GjQuery.calls (⟨#[35, 40, 97, 41]⟩ : ByteArray) t136 t137 t138 t139 t140 t141 true _ A40.out).mono ?_); rintro e w43 ⟨rfl, hb⟩; refine ⟨_, rfl, ?_⟩; have n0_ := Aside0.mk (below_step (by repeat (first | (with_reducible first | exact HB.out | apply below_alloc | apply pw_below_drewN | apply below_drew1) | exact HB.out)) hb); clear HB; have HB := n0_; clear n0_; (try clear hb); (try clear hb2); (try clear hk); (try clear hi)))
     go_ret
     exact ⟨by first | rfl | (simp [errW_none, errW_some] <;> rfl) | (simp [*, errW_none, errW_some] <;> rfl), by repeat (first | (with_reducible first | exact HB.out | apply below_alloc | apply pw_below_drewN | apply below_drew1) | exact HB.out)⟩
    ·
     replace c41 := Bool.eq_false_iff.mpr c41
     subst c41
     have H1 : (some false) = some r := by rw [if_neg (show ¬ (false = true) by decide)] at H; exact H
     clear H
     have H := H1
     clear H1
     obtain rfl := Option.some.inj H
     go_enter Try.func8, Try.ntmps8
     go_wp2_with (first | ((with_reducible refine gate_callee (f := 24) rfl ?_); refine goesL_ (some 26) rfl rfl Try.func24 (by kernel_rfl) rfl #[.string a0] rfl (by (try simp only [List.map_toArray, List.map_cons, List.map_nil]); first | done | rfl | (simp only [List.length_drop, List.length_take]; rfl)) ?_; (with_reducible refine (impl_GjQuery.calls a0 t115 t116 t117 t118 t119 t120 false _ A4.out).mono ?_); rintro e w44 ⟨rfl, hb⟩; refine ⟨_, rfl, ?_⟩; have n0_ := Aside0.mk (below_step (by repeat (first | (with_reducible first | exact HB.out | apply below_alloc | apply pw_below_drewN | apply below_drew1) | exact HB.out)) hb); clear HB; have HB := n0_; clear n0_; (try clear hb); (try clear hb2); (try clear hk); (try clear hi)) | ((with_reducible refine gate_callee (f := 24) rfl ?_); refine goesL_ (some 81) rfl rfl Try.func24 (by kernel_rfl) rfl #[.string (⟨#[35, 40, 97, 41]⟩ : ByteArray)] rfl (by (try simp only [List.map_toArray, List.map_cons, List.map_nil]); first | done | rfl | (simp only [List.length_drop, List.length_take]; rfl)) ?_; (with_reducible refine (impl_GjQuery.calls (⟨#[35, 40, 97, 41]⟩ : ByteArray) t136 t137 t138 t139 t140 t141 false _ A40.out).mono ?_); rintro e w45 ⟨rfl, hb⟩; refine ⟨_, rfl, ?_⟩; have n0_ := Aside0.mk (below_step (by repeat (first | (with_reducible first | exact HB.out | apply below_alloc | apply pw_below_drewN | apply below_drew1) | exact HB.out)) hb); clear HB; have HB := n0_; clear n0_; (try clear hb); (try clear hb2); (try clear hk); (try clear hi)))
     go_ret
     exact ⟨by first | rfl | (simp [errW_none, errW_some] <;> rfl) | (simp [*, errW_none, errW_some] <;> rfl), by repeat (first | (with_reducible first | exact HB.out | apply below_alloc | apply pw_below_drewN | apply below_drew1) | exact HB.out)⟩

/-- THE ONE PURE STATEMENT of laws_FnGjQueryAny: yours. -/
def laws_FnGjQueryAny.Pure : Prop := ∀ (a0 : ByteArray), a0.size ≤ 140737488351232 → ∃ k, laws_FnGjQueryAny.f k a0 = some true
theorem laws_FnGjQueryAny.walk (P : laws_FnGjQueryAny.Pure) (a0 : ByteArray) (w : World) (w0 : a0.size ≤ 140737488351232) :
  Calls Try.prog 8 #[.string a0] w fun e w' => e = .returned (.bool true) ∧ Below w.heap.size w w' := by
 obtain ⟨k, h⟩ := P a0 w0
 refine (laws_FnGjQueryAny.calls k a0 true w h).mono ?_
 rintro e w' ⟨rfl, hd⟩
 exact ⟨rfl, hd⟩

end Go.Proofs.Ytifcmhekpbfboaa.MFnGjQueryAny
