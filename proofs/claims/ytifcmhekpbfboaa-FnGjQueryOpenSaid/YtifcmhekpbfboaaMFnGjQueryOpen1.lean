/- What Go functions compute, as functions of numbers and lists, and the walks that show it. No condition. Written by a program (wip/tools/mprint.py) over the kit's print. -/
import Derived.Test.YtifcmhekpbfboaaMFnGjQueryOpen0
import Derived.Test.YtifcmhekpbfboaaPq2
namespace Go.Proofs.Ytifcmhekpbfboaa.MFnGjQueryOpen
open Go.RowKit Go.Proofs.YtifcmhekpbfboaaW.PrintWords Go.Proofs.YtifcmhekpbfboaaW.PrintLast Go.Proofs.YtifcmhekpbfboaaW.PrintMore
attribute [local go_sem] max2_int min2_int max_two min_two max_three min_three max_four min_four   -- for this text's walks alone
set_option linter.unusedVariables false
set_option linter.unusedSimpArgs false

/-! ### gjson_DoorQuery: function 38 -/
def gjson_DoorQuery.f (a0 : ByteArray) : Option (ByteArray × ByteArray × ByteArray × ByteArray × Int × Bool × Bool) := (gjson_parseQuery.f a0).bind fun bt101 => (some (bt101.1, bt101.2.1, bt101.2.2.1, bt101.2.2.2.1, bt101.2.2.2.2.1, bt101.2.2.2.2.2.1, bt101.2.2.2.2.2.2))
set_option maxHeartbeats 8000000 in
set_option maxRecDepth 100000 in
theorem gjson_DoorQuery.calls (a0 : ByteArray) (r1 : ByteArray) (r2 : ByteArray) (r3 : ByteArray) (r4 : ByteArray) (r5 : Int) (r6 : Bool) (r7 : Bool) (w : World) (h : gjson_DoorQuery.f a0 = some (r1, r2, r3, r4, r5, r6, r7)) :
  Calls Try.prog 38 #[.string a0] w fun e w' => e = .returned (.tuple #[.string r1, .string r2, .string r3, .string r4, .int .i64 r5, .bool r6, .bool r7]) ∧ Below w.heap.size w w' := by
 have HB := Aside0.mk (Below.refl w.heap.size w)
 have H : ((gjson_parseQuery.f a0).bind fun bt101 => (some (bt101.1, bt101.2.1, bt101.2.2.1, bt101.2.2.2.1, bt101.2.2.2.2.1, bt101.2.2.2.2.2.1, bt101.2.2.2.2.2.2))) = some (r1, r2, r3, r4, r5, r6, r7) := h
 clear h
 replace H := Option.bind_eq_some_iff.mp H
 obtain ⟨⟨t101, t102, t103, t104, t105, t106, t107⟩, A20, H⟩ := H
 replace H : (some (t101, t102, t103, t104, t105, t106, t107)) = some (r1, r2, r3, r4, r5, r6, r7) := H
 have A2 := Aside0.mk A20
 clear A20
 simp only [Option.some.injEq, Prod.mk.injEq] at H
 obtain ⟨rfl, rfl, rfl, rfl, rfl, rfl, rfl⟩ := H
 go_enter Try.func38, Try.ntmps38
 go_wp2_with (first | ((with_reducible refine gate_callee (f := 52) rfl ?_); refine goesL_ (some 10) rfl rfl Try.func52 (by kernel_rfl) rfl #[.string a0] rfl (by (try simp only [List.map_toArray, List.map_cons, List.map_nil]); first | done | rfl | (simp only [List.length_drop, List.length_take]; rfl)) ?_; (with_reducible refine (gjson_parseQuery.calls a0 t101 t102 t103 t104 t105 t106 t107 _ A2.out).mono ?_); rintro e w3 ⟨rfl, hb⟩; refine ⟨_, rfl, ?_⟩; have n0_ := Aside0.mk (below_step (by repeat (first | (with_reducible first | exact HB.out | apply below_alloc | apply pw_below_drewN | apply below_drew1) | exact HB.out)) hb); clear HB; have HB := n0_; clear n0_; (try clear hb); (try clear hb2); (try clear hk); (try clear hi)))
 refine bodyPost_ret (results_list (rs := [.tmp 2, .tmp 3, .tmp 4, .tmp 5, .tmp 6, .tmp 7, .tmp 8]) rfl (by simp) (.tmp (.tmp (.tmp (.tmp (.tmp (.tmp (.tmp .nil)))))))) rfl ?_
 exact ⟨by first | rfl | (simp [errW_none, errW_some] <;> rfl) | (simp [*, errW_none, errW_some] <;> rfl), by repeat (first | (with_reducible first | exact HB.out | apply below_alloc | apply pw_below_drewN | apply below_drew1) | exact HB.out)⟩

/-! ### impl_GjQuery: function 24 -/
def impl_GjQuery.f (a0 : ByteArray) : Option (ByteArray × ByteArray × ByteArray × ByteArray × Int × Bool × Bool) := (gjson_DoorQuery.f a0).bind fun bt108 => (some (bt108.1, bt108.2.1, bt108.2.2.1, bt108.2.2.2.1, bt108.2.2.2.2.1, bt108.2.2.2.2.2.1, bt108.2.2.2.2.2.2))
set_option maxHeartbeats 8000000 in
set_option maxRecDepth 100000 in
theorem impl_GjQuery.calls (a0 : ByteArray) (r1 : ByteArray) (r2 : ByteArray) (r3 : ByteArray) (r4 : ByteArray) (r5 : Int) (r6 : Bool) (r7 : Bool) (w : World) (h : impl_GjQuery.f a0 = some (r1, r2, r3, r4, r5, r6, r7)) :
  Calls Try.prog 24 #[.string a0] w fun e w' => e = .returned (.tuple #[.string r1, .string r2, .string r3, .string r4, .int .i64 r5, .bool r6, .bool r7]) ∧ Below w.heap.size w w' := by
 have HB := Aside0.mk (Below.refl w.heap.size w)
 have H : ((gjson_DoorQuery.f a0).bind fun bt108 => (some (bt108.1, bt108.2.1, bt108.2.2.1, bt108.2.2.2.1, bt108.2.2.2.2.1, bt108.2.2.2.2.2.1, bt108.2.2.2.2.2.2))) = some (r1, r2, r3, r4, r5, r6, r7) := h
 clear h
 replace H := Option.bind_eq_some_iff.mp H
 obtain ⟨⟨t108, t109, t110, t111, t112, t113, t114⟩, A20, H⟩ := H
 replace H : (some (t108, t109, t110, t111, t112, t113, t114)) = some (r1, r2, r3, r4, r5, r6, r7) := H
 have A2 := Aside0.mk A20
 clear A20
 simp only [Option.some.injEq, Prod.mk.injEq] at H
 obtain ⟨rfl, rfl, rfl, rfl, rfl, rfl, rfl⟩ := H
 go_enter Try.func24, Try.ntmps24
 go_wp2_with (first | ((with_reducible refine gate_callee (f := 38) rfl ?_); refine goesL_ (some 10) rfl rfl Try.func38 (by kernel_rfl) rfl #[.string a0] rfl (by (try simp only [List.map_toArray, List.map_cons, List.map_nil]); first | done | rfl | (simp only [List.length_drop, List.length_take]; rfl)) ?_; (with_reducible refine (gjson_DoorQuery.calls a0 t108 t109 t110 t111 t112 t113 t114 _ A2.out).mono ?_); rintro e w3 ⟨rfl, hb⟩; refine ⟨_, rfl, ?_⟩; have n0_ := Aside0.mk (below_step (by repeat (first | (with_reducible first | exact HB.out | apply below_alloc | apply pw_below_drewN | apply below_drew1) | exact HB.out)) hb); clear HB; have HB := n0_; clear n0_; (try clear hb); (try clear hb2); (try clear hk); (try clear hi)))
 refine bodyPost_ret (results_list (rs := [.tmp 2, .tmp 3, .tmp 4, .tmp 5, .tmp 6, .tmp 7, .tmp 8]) rfl (by simp) (.tmp (.tmp (.tmp (.tmp (.tmp (.tmp (.tmp .nil)))))))) rfl ?_
 exact ⟨by first | rfl | (simp [errW_none, errW_some] <;> rfl) | (simp [*, errW_none, errW_some] <;> rfl), by repeat (first | (with_reducible first | exact HB.out | apply below_alloc | apply pw_below_drewN | apply below_drew1) | exact HB.out)⟩

/-! ### laws_gjWord: function 25 -/
def laws_gjWord.l0 : Nat → ByteArray → Int → Option (Bool)
 | 0, _, _ => none
 | k + 1, x0, x3 => if x3 < (x0.size : Int) then (if 0 ≤ x3 then (if 97 ≤ (bt x0 x3) then (if (bt x0 x3) ≤ 122 then (laws_gjWord.l0 k x0 (wrap64 (x3 + 1))) else (if 65 ≤ (bt x0 x3) then (if (bt x0 x3) ≤ 90 then (laws_gjWord.l0 k x0 (wrap64 (x3 + 1))) else (if 48 ≤ (bt x0 x3) then (if (bt x0 x3) ≤ 57 then (laws_gjWord.l0 k x0 (wrap64 (x3 + 1))) else (if ((bt x0 x3) = 95) then (laws_gjWord.l0 k x0 (wrap64 (x3 + 1))) else (some false))) else (if ((bt x0 x3) = 95) then (laws_gjWord.l0 k x0 (wrap64 (x3 + 1))) else (some false)))) else (if 48 ≤ (bt x0 x3) then (if (bt x0 x3) ≤ 57 then (laws_gjWord.l0 k x0 (wrap64 (x3 + 1))) else (if ((bt x0 x3) = 95) then (laws_gjWord.l0 k x0 (wrap64 (x3 + 1))) else (some false))) else (if ((bt x0 x3) = 95) then (laws_gjWord.l0 k x0 (wrap64 (x3 + 1))) else (some false))))) else (if 65 ≤ (bt x0 x3) then (if (bt x0 x3) ≤ 90 then (laws_gjWord.l0 k x0 (wrap64 (x3 + 1))) else (if 48 ≤ (bt x0 x3) then (if (bt x0 x3) ≤ 57 then (laws_gjWord.l0 k x0 (wrap64 (x3 + 1))) else (if ((bt x0 x3) = 95) then (laws_gjWord.l0 k x0 (wrap64 (x3 + 1))) else (some false))) else (if ((bt x0 x3) = 95) then (laws_gjWord.l0 k x0 (wrap64 (x3 + 1))) else (some false)))) else (if 48 ≤ (bt x0 x3) then (if (bt x0 x3) ≤ 57 then (laws_gjWord.l0 k x0 (wrap64 (x3 + 1))) else (if ((bt x0 x3) = 95) then (laws_gjWord.l0 k x0 (wrap64 (x3 + 1))) else (some false))) else (if ((bt x0 x3) = 95) then (laws_gjWord.l0 k x0 (wrap64 (x3 + 1))) else (some false))))) else (none)) else (some (x0.toList != ([] : List UInt8)))
def laws_gjWord.f (k : Nat) (a0 : ByteArray) : Option (Bool) := laws_gjWord.l0 k a0 0
theorem laws_gjWord.mono_l : ∀ k, (∀ y0 y1, LeO (laws_gjWord.l0 k y0 y1) (laws_gjWord.l0 (k + 1) y0 y1))
 | 0 => fun _ _ r h => by simp [laws_gjWord.l0] at h
 | k + 1 => by
  have ih0 := laws_gjWord.mono_l k
  ·
   intro y0 y1
   unfold laws_gjWord.l0
   repeat' first
   | (with_reducible exact ih0 _ _)
   | (with_reducible exact LeO.refl _)
   | (with_reducible exact LeO.none _)
   | (with_reducible refine LeO.ite ?_ ?_)
   | (with_reducible refine LeO.bind ?_ (fun _ => ?_))
   | exact ih0 _ _
   | exact LeO.none _
   | refine LeO.ite ?_ ?_
   | refine LeO.bind ?_ (fun _ => ?_)
theorem laws_gjWord.mono : ∀ a0 k, LeO (laws_gjWord.f k a0) (laws_gjWord.f (k + 1) a0) := by
 intro a0 k
 have ih0 := laws_gjWord.mono_l k
 unfold laws_gjWord.f
 repeat' first
   | (with_reducible exact ih0 _ _)
   | (with_reducible exact LeO.refl _)
   | (with_reducible exact LeO.none _)
   | (with_reducible refine LeO.ite ?_ ?_)
   | (with_reducible refine LeO.bind ?_ (fun _ => ?_))
   | exact ih0 _ _
   | exact LeO.none _
   | refine LeO.ite ?_ ?_
   | refine LeO.bind ?_ (fun _ => ?_)
set_option maxHeartbeats 8000000 in
set_option maxRecDepth 100000 in
theorem laws_gjWord.calls (k : Nat) (a0 : ByteArray) (r : Bool) (w : World) (h : laws_gjWord.f k a0 = some r) :
  Calls Try.prog 25 #[.string a0] w fun e w' => e = .returned (.bool r) ∧ Drawn0 w w' := by
 have H : (laws_gjWord.l0 k a0 0) = some r := h
 clear h
 have H' := Aside0.mk H
 clear H
 go_enter Try.func25, Try.ntmps25
 go_wp2
 go_loopg [3] k (fun kq v3 w' => ∃ (x3_1 : Int), v3 = .int .i64 x3_1 ∧ Aside0 (laws_gjWord.l0 kq a0 x3_1 = some r) ∧ Aside0 (kq ≤ k) ∧ Drawn0 w w')
 case atStart => exact ⟨(0), (by first | rfl | (simp; done) | (simp [*]; done) | (simp; rw [Bool.eq_iff_iff]; simp; done)), H', ⟨Nat.le_refl _⟩, by repeat (first | exact Drawn0.refl _ | apply Drawn0.step)⟩
 case round =>
  clear H'
  obtain ⟨x3_1, rfl, HA, HK1, ⟨m1, rfl⟩⟩ := hrel
  cases gk with
  | zero => exact absurd HA.out (by simp [laws_gjWord.l0])
  | succ k1 =>
   have H := HA.out
   clear HA
   simp only [laws_gjWord.l0] at H
   by_cases c2 : x3_1 < (a0.size : Int)
   ·
    rw [if_pos c2] at H
    have c2b0 : decide (x3_1 < (a0.size : Int)) = true := decide_eq_true c2
    clear c2
    by_cases c3 : 0 ≤ x3_1
    ·
     rw [if_pos c3] at H
     have c3b0 : decide (0 ≤ x3_1) = true := decide_eq_true c3
     clear c3
     by_cases c5 : 97 ≤ (bt a0 x3_1)
     ·
      rw [if_pos c5] at H
      have c5b0 : decide (97 ≤ (bt a0 x3_1)) = true := decide_eq_true c5
      clear c5
      by_cases c6 : (bt a0 x3_1) ≤ 122
      ·
       rw [if_pos c6] at H
       have c6b0 : decide ((bt a0 x3_1) ≤ 122) = true := decide_eq_true c6
       clear c6
       have H' := Aside0.mk H
       clear H
       have p4 : 0 ≤ (x3_1 : Int) := of_decide_eq_true (by first | (with_reducible assumption) | assumption)
       have q4 : x3_1 < (a0.size : Int) := of_decide_eq_true (by first | (with_reducible assumption) | assumption)
       have hx4 := bt_at a0 x3_1
       replace p4 := eq_true p4
       replace q4 := eq_true q4
       go_wp2
       go_roundg k1
       case measure => have := HK1.out; omega
       case rel => exact ⟨(wrap64 (x3_1 + 1)), (by first | rfl | (simp; done) | (simp [*]; done) | (simp; rw [Bool.eq_iff_iff]; simp; done)), H', ⟨by have := HK1.out; omega⟩, by repeat (first | exact Drawn0.refl _ | apply Drawn0.step)⟩
      ·
       rw [if_neg c6] at H
       have c6b0 : decide ((bt a0 x3_1) ≤ 122) = false := decide_eq_false c6
       clear c6
       by_cases c7 : 65 ≤ (bt a0 x3_1)
       ·
        rw [if_pos c7] at H
        have c7b0 : decide (65 ≤ (bt a0 x3_1)) = true := decide_eq_true c7
        clear c7
        by_cases c8 : (bt a0 x3_1) ≤ 90
        ·
         rw [if_pos c8] at H
         have c8b0 : decide ((bt a0 x3_1) ≤ 90) = true := decide_eq_true c8
         clear c8
         have H' := Aside0.mk H
         clear H
         have p4 : 0 ≤ (x3_1 : Int) := of_decide_eq_true (by first | (with_reducible assumption) | assumption)
         have q4 : x3_1 < (a0.size : Int) := of_decide_eq_true (by first | (with_reducible assumption) | assumption)
         have hx4 := bt_at a0 x3_1
         replace p4 := eq_true p4
         replace q4 := eq_true q4
         go_wp2
         go_roundg k1
         case measure => have := HK1.out; omega
         case rel => exact ⟨(wrap64 (x3_1 + 1)), (by first | rfl | (simp; done) | (simp [*]; done) | (simp; rw [Bool.eq_iff_iff]; simp; done)), H', ⟨by have := HK1.out; omega⟩, by repeat (first | exact Drawn0.refl _ | apply Drawn0.step)⟩
        ·
         rw [if_neg c8] at H
         have c8b0 : decide ((bt a0 x3_1) ≤ 90) = false := decide_eq_false c8
         clear c8
         by_cases c9 : 48 ≤ (bt a0 x3_1)
         ·
          rw [if_pos c9] at H
          have c9b0 : decide (48 ≤ (bt a0 x3_1)) = true := decide_eq_true c9
          clear c9
          by_cases c10 : (bt a0 x3_1) ≤ 57
          ·
           rw [if_pos c10] at H
           have c10b0 : decide ((bt a0 x3_1) ≤ 57) = true := decide_eq_true c10
           clear c10
           have H' := Aside0.mk H
           clear H
           have p4 : 0 ≤ (x3_1 : Int) := of_decide_eq_true (by first | (with_reducible assumption) | assumption)
           have q4 : x3_1 < (a0.size : Int) := of_decide_eq_true (by first | (with_reducible assumption) | assumption)
           have hx4 := bt_at a0 x3_1
           replace p4 := eq_true p4
           replace q4 := eq_true q4
           go_wp2
           go_roundg k1
           case measure => have := HK1.out; omega
           case rel => exact ⟨(wrap64 (x3_1 + 1)), (by first | rfl | (simp; done) | (simp [*]; done) | (simp; rw [Bool.eq_iff_iff]; simp; done)), H', ⟨by have := HK1.out; omega⟩, by repeat (first | exact Drawn0.refl _ | apply Drawn0.step)⟩
          ·
           rw [if_neg c10] at H
           have c10b0 : decide ((bt a0 x3_1) ≤ 57) = false := decide_eq_false c10
           clear c10
           by_cases c11 : ((bt a0 x3_1) = 95)
           ·
            rw [if_pos c11] at H
            have c11b0 : ((bt a0 x3_1) == 95) = true := beq_iff_eq.mpr c11
            have c11b1 : ((bt a0 x3_1) != 95) = false := bne_eq_false_iff_eq.mpr c11
            clear c11
            have H' := Aside0.mk H
            clear H
            have p4 : 0 ≤ (x3_1 : Int) := of_decide_eq_true (by first | (with_reducible assumption) | assumption)
            have q4 : x3_1 < (a0.size : Int) := of_decide_eq_true (by first | (with_reducible assumption) | assumption)
            have hx4 := bt_at a0 x3_1
            replace p4 := eq_true p4
            replace q4 := eq_true q4
            go_wp2
            go_roundg k1
            case measure => have := HK1.out; omega
            case rel => exact ⟨(wrap64 (x3_1 + 1)), (by first | rfl | (simp; done) | (simp [*]; done) | (simp; rw [Bool.eq_iff_iff]; simp; done)), H', ⟨by have := HK1.out; omega⟩, by repeat (first | exact Drawn0.refl _ | apply Drawn0.step)⟩
           ·
            rw [if_neg c11] at H
            have c11b0 : ((bt a0 x3_1) == 95) = false := beq_eq_false_iff_ne.mpr c11
            have c11b1 : ((bt a0 x3_1) != 95) = true := bne_iff_ne.mpr c11
            obtain rfl := Option.some.inj H
            have p4 : 0 ≤ (x3_1 : Int) := of_decide_eq_true (by first | (with_reducible assumption) | assumption)
            have q4 : x3_1 < (a0.size : Int) := of_decide_eq_true (by first | (with_reducible assumption) | assumption)
            have hx4 := bt_at a0 x3_1
            replace p4 := eq_true p4
            replace q4 := eq_true q4
            go_wp2
            go_ret
            exact ⟨by first | rfl | (simp; done) | (simp [*]; done) | (simp; rw [Bool.eq_iff_iff]; simp; done), by repeat (first | exact Drawn0.refl _ | apply Drawn0.step)⟩
         ·
          rw [if_neg c9] at H
          have c9b0 : decide (48 ≤ (bt a0 x3_1)) = false := decide_eq_false c9
          clear c9
          by_cases c12 : ((bt a0 x3_1) = 95)
          ·
           rw [if_pos c12] at H
           have c12b0 : ((bt a0 x3_1) == 95) = true := beq_iff_eq.mpr c12
           have c12b1 : ((bt a0 x3_1) != 95) = false := bne_eq_false_iff_eq.mpr c12
           clear c12
           have H' := Aside0.mk H
           clear H
           have p4 : 0 ≤ (x3_1 : Int) := of_decide_eq_true (by first | (with_reducible assumption) | assumption)
           have q4 : x3_1 < (a0.size : Int) := of_decide_eq_true (by first | (with_reducible assumption) | assumption)
           have hx4 := bt_at a0 x3_1
           replace p4 := eq_true p4
           replace q4 := eq_true q4
           go_wp2
           go_roundg k1
           case measure => have := HK1.out; omega
           case rel => exact ⟨(wrap64 (x3_1 + 1)), (by first | rfl | (simp; done) | (simp [*]; done) | (simp; rw [Bool.eq_iff_iff]; simp; done)), H', ⟨by have := HK1.out; omega⟩, by repeat (first | exact Drawn0.refl _ | apply Drawn0.step)⟩
          ·
           rw [if_neg c12] at H
           have c12b0 : ((bt a0 x3_1) == 95) = false := beq_eq_false_iff_ne.mpr c12
           have c12b1 : ((bt a0 x3_1) != 95) = true := bne_iff_ne.mpr c12
           obtain rfl := Option.some.inj H
           have p4 : 0 ≤ (x3_1 : Int) := of_decide_eq_true (by first | (with_reducible assumption) | assumption)
           have q4 : x3_1 < (a0.size : Int) := of_decide_eq_true (by first | (with_reducible assumption) | assumption)
           have hx4 := bt_at a0 x3_1
           replace p4 := eq_true p4
           replace q4 := eq_true q4
           go_wp2
           go_ret
           exact ⟨by first | rfl | (simp; done) | (simp [*]; done) | (simp; rw [Bool.eq_iff_iff]; simp; done), by repeat (first | exact Drawn0.refl _ | apply Drawn0.step)⟩
       ·
        rw [if_neg c7] at H
        have c7b0 : decide (65 ≤ (bt a0 x3_1)) = false := decide_eq_false c7
        clear c7
        by_cases c13 : 48 ≤ (bt a0 x3_1)
        ·
         rw [if_pos c13] at H
         have c13b0 : decide (48 ≤ (bt a0 x3_1)) = true := decide_eq_true c13
         clear c13
         by_cases c14 : (bt a0 x3_1) ≤ 57
         ·
          rw [if_pos c14] at H
          have c14b0 : decide ((bt a0 x3_1) ≤ 57) = true := decide_eq_true c14
          clear c14
          have H' := Aside0.mk H
          clear H
          have p4 : 0 ≤ (x3_1 : Int) := of_decide_eq_true (by first | (with_reducible assumption) | assumption)
          have q4 : x3_1 < (a0.size : Int) := of_decide_eq_true (by first | (with_reducible assumption) | assumption)
          have hx4 := bt_at a0 x3_1
          replace p4 := eq_true p4
          replace q4 := eq_true q4
          go_wp2
          go_roundg k1
          case measure => have := HK1.out; omega
          case rel => exact ⟨(wrap64 (x3_1 + 1)), (by first | rfl | (simp; done) | (simp [*]; done) | (simp; rw [Bool.eq_iff_iff]; simp; done)), H', ⟨by have := HK1.out; omega⟩, by repeat (first | exact Drawn0.refl _ | apply Drawn0.step)⟩
         ·
          rw [if_neg c14] at H
          have c14b0 : decide ((bt a0 x3_1) ≤ 57) = false := decide_eq_false c14
          clear c14
          by_cases c15 : ((bt a0 x3_1) = 95)
          ·
           rw [if_pos c15] at H
           have c15b0 : ((bt a0 x3_1) == 95) = true := beq_iff_eq.mpr c15
           have c15b1 : ((bt a0 x3_1) != 95) = false := bne_eq_false_iff_eq.mpr c15
           clear c15
           have H' := Aside0.mk H
           clear H
           have p4 : 0 ≤ (x3_1 : Int) := of_decide_eq_true (by first | (with_reducible assumption) | assumption)
           have q4 : x3_1 < (a0.size : Int) := of_decide_eq_true (by first | (with_reducible assumption) | assumption)
           have hx4 := bt_at a0 x3_1
           replace p4 := eq_true p4
           replace q4 := eq_true q4
           go_wp2
           go_roundg k1
           case measure => have := HK1.out; omega
           case rel => exact ⟨(wrap64 (x3_1 + 1)), (by first | rfl | (simp; done) | (simp [*]; done) | (simp; rw [Bool.eq_iff_iff]; simp; done)), H', ⟨by have := HK1.out; omega⟩, by repeat (first | exact Drawn0.refl _ | apply Drawn0.step)⟩
          ·
           rw [if_neg c15] at H
           have c15b0 : ((bt a0 x3_1) == 95) = false := beq_eq_false_iff_ne.mpr c15
           have c15b1 : ((bt a0 x3_1) != 95) = true := bne_iff_ne.mpr c15
           obtain rfl := Option.some.inj H
           have p4 : 0 ≤ (x3_1 : Int) := of_decide_eq_true (by first | (with_reducible assumption) | assumption)
           have q4 : x3_1 < (a0.size : Int) := of_decide_eq_true (by first | (with_reducible assumption) | assumption)
           have hx4 := bt_at a0 x3_1
           replace p4 := eq_true p4
           replace q4 := eq_true q4
           go_wp2
           go_ret
           exact ⟨by first | rfl | (simp; done) | (simp [*]; done) | (simp; rw [Bool.eq_iff_iff]; simp; done), by repeat (first | exact Drawn0.refl _ | apply Drawn0.step)⟩
        ·
         rw [if_neg c13] at H
         have c13b0 : decide (48 ≤ (bt a0 x3_1)) = false := decide_eq_false c13
         clear c13
         by_cases c16 : ((bt a0 x3_1) = 95)
         ·
          rw [if_pos c16] at H
          have c16b0 : ((bt a0 x3_1) == 95) = true := beq_iff_eq.mpr c16
          have c16b1 : ((bt a0 x3_1) != 95) = false := bne_eq_false_iff_eq.mpr c16
          clear c16
          have H' := Aside0.mk H
          clear H
          have p4 : 0 ≤ (x3_1 : Int) := of_decide_eq_true (by first | (with_reducible assumption) | assumption)
          have q4 : x3_1 < (a0.size : Int) := of_decide_eq_true (by first | (with_reducible assumption) | assumption)
          have hx4 := bt_at a0 x3_1
          replace p4 := eq_true p4
          replace q4 := eq_true q4
          go_wp2
          go_roundg k1
          case measure => have := HK1.out; omega
          case rel => exact ⟨(wrap64 (x3_1 + 1)), (by first | rfl | (simp; done) | (simp [*]; done) | (simp; rw [Bool.eq_iff_iff]; simp; done)), H', ⟨by have := HK1.out; omega⟩, by repeat (first | exact Drawn0.refl _ | apply Drawn0.step)⟩
         ·
          rw [if_neg c16] at H
          have c16b0 : ((bt a0 x3_1) == 95) = false := beq_eq_false_iff_ne.mpr c16
          have c16b1 : ((bt a0 x3_1) != 95) = true := bne_iff_ne.mpr c16
          obtain rfl := Option.some.inj H
          have p4 : 0 ≤ (x3_1 : Int) := of_decide_eq_true (by first | (with_reducible assumption) | assumption)
          have q4 : x3_1 < (a0.size : Int) := of_decide_eq_true (by first | (with_reducible assumption) | assumption)
          have hx4 := bt_at a0 x3_1
          replace p4 := eq_true p4
          replace q4 := eq_true q4
          go_wp2
          go_ret
          exact ⟨by first | rfl | (simp; done) | (simp [*]; done) | (simp; rw [Bool.eq_iff_iff]; simp; done), by repeat (first | exact Drawn0.refl _ | apply Drawn0.step)⟩
     ·
      rw [if_neg c5] at H
      have c5b0 : decide (97 ≤ (bt a0 x3_1)) = false := decide_eq_false c5
      clear c5
      by_cases c17 : 65 ≤ (bt a0 x3_1)
      ·
       rw [if_pos c17] at H
       have c17b0 : decide (65 ≤ (bt a0 x3_1)) = true := decide_eq_true c17
       clear c17
       by_cases c18 : (bt a0 x3_1) ≤ 90
       ·
        rw [if_pos c18] at H
        have c18b0 : decide ((bt a0 x3_1) ≤ 90) = true := decide_eq_true c18
        clear c18
        have H' := Aside0.mk H
        clear H
        have p4 : 0 ≤ (x3_1 : Int) := of_decide_eq_true (by first | (with_reducible assumption) | assumption)
        have q4 : x3_1 < (a0.size : Int) := of_decide_eq_true (by first | (with_reducible assumption) | assumption)
        have hx4 := bt_at a0 x3_1
        replace p4 := eq_true p4
        replace q4 := eq_true q4
        go_wp2
        go_roundg k1
        case measure => have := HK1.out; omega
        case rel => exact ⟨(wrap64 (x3_1 + 1)), (by first | rfl | (simp; done) | (simp [*]; done) | (simp; rw [Bool.eq_iff_iff]; simp; done)), H', ⟨by have := HK1.out; omega⟩, by repeat (first | exact Drawn0.refl _ | apply Drawn0.step)⟩
       ·
        rw [if_neg c18] at H
        have c18b0 : decide ((bt a0 x3_1) ≤ 90) = false := decide_eq_false c18
        clear c18
        by_cases c19 : 48 ≤ (bt a0 x3_1)
        ·
         rw [if_pos c19] at H
         have c19b0 : decide (48 ≤ (bt a0 x3_1)) = true := decide_eq_true c19
         clear c19
         by_cases c20 : (bt a0 x3_1) ≤ 57
         ·
          rw [if_pos c20] at H
          have c20b0 : decide ((bt a0 x3_1) ≤ 57) = true := decide_eq_true c20
          clear c20
          have H' := Aside0.mk H
          clear H
          have p4 : 0 ≤ (x3_1 : Int) := of_decide_eq_true (by first | (with_reducible assumption) | assumption)
          have q4 : x3_1 < (a0.size : Int) := of_decide_eq_true (by first | (with_reducible assumption) | assumption)
          have hx4 := bt_at a0 x3_1
          replace p4 := eq_true p4
          replace q4 := eq_true q4
          go_wp2
          go_roundg k1
          case measure => have := HK1.out; omega
          case rel => exact ⟨(wrap64 (x3_1 + 1)), (by first | rfl | (simp; done) | (simp [*]; done) | (simp; rw [Bool.eq_iff_iff]; simp; done)), H', ⟨by have := HK1.out; omega⟩, by repeat (first | exact Drawn0.refl _ | apply Drawn0.step)⟩
         ·
          rw [if_neg c20] at H
          have c20b0 : decide ((bt a0 x3_1) ≤ 57) = false := decide_eq_false c20
          clear c20
          by_cases c21 : ((bt a0 x3_1) = 95)
          ·
           rw [if_pos c21] at H
           have c21b0 : ((bt a0 x3_1) == 95) = true := beq_iff_eq.mpr c21
           have c21b1 : ((bt a0 x3_1) != 95) = false := bne_eq_false_iff_eq.mpr c21
           clear c21
           have H' := Aside0.mk H
           clear H
           have p4 : 0 ≤ (x3_1 : Int) := of_decide_eq_true (by first | (with_reducible assumption) | assumption)
           have q4 : x3_1 < (a0.size : Int) := of_decide_eq_true (by first | (with_reducible assumption) | assumption)
           have hx4 := bt_at a0 x3_1
           replace p4 := eq_true p4
           replace q4 := eq_true q4
           go_wp2
           go_roundg k1
           case measure => have := HK1.out; omega
           case rel => exact ⟨(wrap64 (x3_1 + 1)), (by first | rfl | (simp; done) | (simp [*]; done) | (simp; rw [Bool.eq_iff_iff]; simp; done)), H', ⟨by have := HK1.out; omega⟩, by repeat (first | exact Drawn0.refl _ | apply Drawn0.step)⟩
          ·
           rw [if_neg c21] at H
           have c21b0 : ((bt a0 x3_1) == 95) = false := beq_eq_false_iff_ne.mpr c21
           have c21b1 : ((bt a0 x3_1) != 95) = true := bne_iff_ne.mpr c21
           obtain rfl := Option.some.inj H
           have p4 : 0 ≤ (x3_1 : Int) := of_decide_eq_true (by first | (with_reducible assumption) | assumption)
           have q4 : x3_1 < (a0.size : Int) := of_decide_eq_true (by first | (with_reducible assumption) | assumption)
           have hx4 := bt_at a0 x3_1
           replace p4 := eq_true p4
           replace q4 := eq_true q4
           go_wp2
           go_ret
           exact ⟨by first | rfl | (simp; done) | (simp [*]; done) | (simp; rw [Bool.eq_iff_iff]; simp; done), by repeat (first | exact Drawn0.refl _ | apply Drawn0.step)⟩
        ·
         rw [if_neg c19] at H
         have c19b0 : decide (48 ≤ (bt a0 x3_1)) = false := decide_eq_false c19
         clear c19
         by_cases c22 : ((bt a0 x3_1) = 95)
         ·
          rw [if_pos c22] at H
          have c22b0 : ((bt a0 x3_1) == 95) = true := beq_iff_eq.mpr c22
          have c22b1 : ((bt a0 x3_1) != 95) = false := bne_eq_false_iff_eq.mpr c22
          clear c22
          have H' := Aside0.mk H
          clear H
          have p4 : 0 ≤ (x3_1 : Int) := of_decide_eq_true (by first | (with_reducible assumption) | assumption)
          have q4 : x3_1 < (a0.size : Int) := of_decide_eq_true (by first | (with_reducible assumption) | assumption)
          have hx4 := bt_at a0 x3_1
          replace p4 := eq_true p4
          replace q4 := eq_true q4
          go_wp2
          go_roundg k1
          case measure => have := HK1.out; omega
          case rel => exact ⟨(wrap64 (x3_1 + 1)), (by first | rfl | (simp; done) | (simp [*]; done) | (simp; rw [Bool.eq_iff_iff]; simp; done)), H', ⟨by have := HK1.out; omega⟩, by repeat (first | exact Drawn0.refl _ | apply Drawn0.step)⟩
         ·
          rw [if_neg c22] at H
          have c22b0 : ((bt a0 x3_1) == 95) = false := beq_eq_false_iff_ne.mpr c22
          have c22b1 : ((bt a0 x3_1) != 95) = true := bne_iff_ne.mpr c22
          obtain rfl := Option.some.inj H
          have p4 : 0 ≤ (x3_1 : Int) := of_decide_eq_true (by first | (with_reducible assumption) | assumption)
          have q4 : x3_1 < (a0.size : Int) := of_decide_eq_true (by first | (with_reducible assumption) | assumption)
          have hx4 := bt_at a0 x3_1
          replace p4 := eq_true p4
          replace q4 := eq_true q4
          go_wp2
          go_ret
          exact ⟨by first | rfl | (simp; done) | (simp [*]; done) | (simp; rw [Bool.eq_iff_iff]; simp; done), by repeat (first | exact Drawn0.refl _ | apply Drawn0.step)⟩
      ·
       rw [if_neg c17] at H
       have c17b0 : decide (65 ≤ (bt a0 x3_1)) = false := decide_eq_false c17
       clear c17
       by_cases c23 : 48 ≤ (bt a0 x3_1)
       ·
        rw [if_pos c23] at H
        have c23b0 : decide (48 ≤ (bt a0 x3_1)) = true := decide_eq_true c23
        clear c23
        by_cases c24 : (bt a0 x3_1) ≤ 57
        ·
         rw [if_pos c24] at H
         have c24b0 : decide ((bt a0 x3_1) ≤ 57) = true := decide_eq_true c24
         clear c24
         have H' := Aside0.mk H
         clear H
         have p4 : 0 ≤ (x3_1 : Int) := of_decide_eq_true (by first | (with_reducible assumption) | assumption)
         have q4 : x3_1 < (a0.size : Int) := of_decide_eq_true (by first | (with_reducible assumption) | assumption)
         have hx4 := bt_at a0 x3_1
         replace p4 := eq_true p4
         replace q4 := eq_true q4
         go_wp2
         go_roundg k1
         case measure => have := HK1.out; omega
         case rel => exact ⟨(wrap64 (x3_1 + 1)), (by first | rfl | (simp; done) | (simp [*]; done) | (simp; rw [Bool.eq_iff_iff]; simp; done)), H', ⟨by have := HK1.out; omega⟩, by repeat (first | exact Drawn0.refl _ | apply Drawn0.step)⟩
        ·
         rw [if_neg c24] at H
         have c24b0 : decide ((bt a0 x3_1) ≤ 57) = false := decide_eq_false c24
         clear c24
         by_cases c25 : ((bt a0 x3_1) = 95)
         ·
          rw [if_pos c25] at H
          have c25b0 : ((bt a0 x3_1) == 95) = true := beq_iff_eq.mpr c25
          have c25b1 : ((bt a0 x3_1) != 95) = false := bne_eq_false_iff_eq.mpr c25
          clear c25
          have H' := Aside0.mk H
          clear H
          have p4 : 0 ≤ (x3_1 : Int) := of_decide_eq_true (by first | (with_reducible assumption) | assumption)
          have q4 : x3_1 < (a0.size : Int) := of_decide_eq_true (by first | (with_reducible assumption) | assumption)
          have hx4 := bt_at a0 x3_1
          replace p4 := eq_true p4
          replace q4 := eq_true q4
          go_wp2
          go_roundg k1
          case measure => have := HK1.out; omega
          case rel => exact ⟨(wrap64 (x3_1 + 1)), (by first | rfl | (simp; done) | (simp [*]; done) | (simp; rw [Bool.eq_iff_iff]; simp; done)), H', ⟨by have := HK1.out; omega⟩, by repeat (first | exact Drawn0.refl _ | apply Drawn0.step)⟩
         ·
          rw [if_neg c25] at H
          have c25b0 : ((bt a0 x3_1) == 95) = false := beq_eq_false_iff_ne.mpr c25
          have c25b1 : ((bt a0 x3_1) != 95) = true := bne_iff_ne.mpr c25
          obtain rfl := Option.some.inj H
          have p4 : 0 ≤ (x3_1 : Int) := of_decide_eq_true (by first | (with_reducible assumption) | assumption)
          have q4 : x3_1 < (a0.size : Int) := of_decide_eq_true (by first | (with_reducible assumption) | assumption)
          have hx4 := bt_at a0 x3_1
          replace p4 := eq_true p4
          replace q4 := eq_true q4
          go_wp2
          go_ret
          exact ⟨by first | rfl | (simp; done) | (simp [*]; done) | (simp; rw [Bool.eq_iff_iff]; simp; done), by repeat (first | exact Drawn0.refl _ | apply Drawn0.step)⟩
       ·
        rw [if_neg c23] at H
        have c23b0 : decide (48 ≤ (bt a0 x3_1)) = false := decide_eq_false c23
        clear c23
        by_cases c26 : ((bt a0 x3_1) = 95)
        ·
         rw [if_pos c26] at H
         have c26b0 : ((bt a0 x3_1) == 95) = true := beq_iff_eq.mpr c26
         have c26b1 : ((bt a0 x3_1) != 95) = false := bne_eq_false_iff_eq.mpr c26
         clear c26
         have H' := Aside0.mk H
         clear H
         have p4 : 0 ≤ (x3_1 : Int) := of_decide_eq_true (by first | (with_reducible assumption) | assumption)
         have q4 : x3_1 < (a0.size : Int) := of_decide_eq_true (by first | (with_reducible assumption) | assumption)
         have hx4 := bt_at a0 x3_1
         replace p4 := eq_true p4
         replace q4 := eq_true q4
         go_wp2
         go_roundg k1
         case measure => have := HK1.out; omega
         case rel => exact ⟨(wrap64 (x3_1 + 1)), (by first | rfl | (simp; done) | (simp [*]; done) | (simp; rw [Bool.eq_iff_iff]; simp; done)), H', ⟨by have := HK1.out; omega⟩, by repeat (first | exact Drawn0.refl _ | apply Drawn0.step)⟩
        ·
         rw [if_neg c26] at H
         have c26b0 : ((bt a0 x3_1) == 95) = false := beq_eq_false_iff_ne.mpr c26
         have c26b1 : ((bt a0 x3_1) != 95) = true := bne_iff_ne.mpr c26
         obtain rfl := Option.some.inj H
         have p4 : 0 ≤ (x3_1 : Int) := of_decide_eq_true (by first | (with_reducible assumption) | assumption)
         have q4 : x3_1 < (a0.size : Int) := of_decide_eq_true (by first | (with_reducible assumption) | assumption)
         have hx4 := bt_at a0 x3_1
         replace p4 := eq_true p4
         replace q4 := eq_true q4
         go_wp2
         go_ret
         exact ⟨by first | rfl | (simp; done) | (simp [*]; done) | (simp; rw [Bool.eq_iff_iff]; simp; done), by repeat (first | exact Drawn0.refl _ | apply Drawn0.step)⟩
    ·
     rw [if_neg c3] at H
     exact absurd H (by simp)
   ·
    rw [if_neg c2] at H
    have c2b0 : decide (x3_1 < (a0.size : Int)) = false := decide_eq_false c2
    clear c2
    obtain rfl := Option.some.inj H
    go_wp2
    go_ret
    exact ⟨by first | rfl | (simp; done) | (simp [*]; done) | (simp; rw [Bool.eq_iff_iff]; simp; done), by repeat (first | exact Drawn0.refl _ | apply Drawn0.step)⟩

end Go.Proofs.Ytifcmhekpbfboaa.MFnGjQueryOpen
