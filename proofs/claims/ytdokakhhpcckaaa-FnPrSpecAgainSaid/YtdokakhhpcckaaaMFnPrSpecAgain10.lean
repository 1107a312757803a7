/- What Go functions compute, as functions of numbers and lists, and the walks that show it. No condition. Written by a program (wip/tools/mprint.py) over the kit's print. -/
import Derived.Test.YtdokakhhpcckaaaMFnPrSpecAgain0
namespace Go.Proofs.Ytdokakhhpcckaaa.MFnPrSpecAgain
open Go.RowKit Go.Proofs.YtdokakhhpcckaaaW.PrintWords Go.Proofs.YtdokakhhpcckaaaW.PrintLast Go.Proofs.YtdokakhhpcckaaaW.PrintMore
attribute [local go_sem] max2_int min2_int max_two min_two max_three min_three max_four min_four   -- for this text's walks alone
set_option linter.unusedVariables false
set_option linter.unusedSimpArgs false

/-! ### gjson_validtrue: function 32 -/
def gjson_validtrue.f (l0 : List Int) (a1 : Int) : Option (Int × Bool) := if (wrap64 (a1 + 3)) ≤ (l0.length : Int) then (if 0 ≤ a1 then (if a1 < (l0.length : Int) then (if (rd l0 a1) = 114 then (if 0 ≤ (wrap64 (a1 + 1)) then (if (wrap64 (a1 + 1)) < (l0.length : Int) then (if (rd l0 (wrap64 (a1 + 1))) = 117 then (if 0 ≤ (wrap64 (a1 + 2)) then (if (wrap64 (a1 + 2)) < (l0.length : Int) then (if (rd l0 (wrap64 (a1 + 2))) = 101 then (some (wrap64 (a1 + 3), true)) else (some (a1, false))) else (none)) else (none)) else (some (a1, false))) else (none)) else (none)) else (some (a1, false))) else (none)) else (none)) else (some (a1, false))
set_option maxHeartbeats 8000000 in
set_option maxRecDepth 100000 in
theorem gjson_validtrue.calls (A0 : Option Addr) (c0 : Nat) (l0 : List Int) (a1 : Int) (r1 : Int) (r2 : Bool) (w : World) (hr0 : Kd.C (Kd.int .u8) w A0 l0.length l0) (hc0 : l0.length ≤ c0) (h : gjson_validtrue.f l0 a1 = some (r1, r2)) :
  Calls Try.prog 32 #[.slice A0 l0.length c0, .int .i64 a1] w fun e w' => e = .returned (.tuple #[.int .i64 r1, .bool r2]) ∧ Drawn0 w w' := by
 have HR0 := Aside0.mk hr0
 have HC0 := Aside0.mk hc0
 clear hr0 hc0
 have H : (if (wrap64 (a1 + 3)) ≤ (l0.length : Int) then (if 0 ≤ a1 then (if a1 < (l0.length : Int) then (if (rd l0 a1) = 114 then (if 0 ≤ (wrap64 (a1 + 1)) then (if (wrap64 (a1 + 1)) < (l0.length : Int) then (if (rd l0 (wrap64 (a1 + 1))) = 117 then (if 0 ≤ (wrap64 (a1 + 2)) then (if (wrap64 (a1 + 2)) < (l0.length : Int) then (if (rd l0 (wrap64 (a1 + 2))) = 101 then (some (wrap64 (a1 + 3), true)) else (some (a1, false))) else (none)) else (none)) else (some (a1, false))) else (none)) else (none)) else (some (a1, false))) else (none)) else (none)) else (some (a1, false))) = some (r1, r2) := h
 clear h
 by_cases c3 : (wrap64 (a1 + 3)) ≤ (l0.length : Int)
 ·
  rw [if_pos c3] at H
  have c3b0 : decide ((wrap64 (a1 + 3)) ≤ (l0.length : Int)) = true := decide_eq_true c3
  clear c3
  by_cases c4 : 0 ≤ a1
  ·
   rw [if_pos c4] at H
   have c4b0 : decide (0 ≤ a1) = true := decide_eq_true c4
   clear c4
   by_cases c5 : a1 < (l0.length : Int)
   ·
    rw [if_pos c5] at H
    have c5b0 : decide (a1 < (l0.length : Int)) = true := decide_eq_true c5
    clear c5
    by_cases c6 : (rd l0 a1) = 114
    ·
     rw [if_pos c6] at H
     have c6b0 : ((rd l0 a1) == 114) = true := beq_iff_eq.mpr c6
     have c6b1 : ((rd l0 a1) != 114) = false := bne_eq_false_iff_eq.mpr c6
     clear c6
     obtain ⟨ji7, hji7⟩ : ∃ j_ : Int, (wrap64 (a1 + 1)) = j_ := ⟨_, rfl⟩
     replace H : (if 0 ≤ (ji7) then (if (ji7) < (l0.length : Int) then (if (rd l0 (ji7)) = 117 then (if 0 ≤ (wrap64 (a1 + 2)) then (if (wrap64 (a1 + 2)) < (l0.length : Int) then (if (rd l0 (wrap64 (a1 + 2))) = 101 then (some (wrap64 (a1 + 3), true)) else (some (a1, false))) else (none)) else (none)) else (some (a1, false))) else (none)) else (none)) = some (r1, r2) := by first | (rw [hji7] at H; exact H) | (simp only [hji7] at H ⊢; exact H)
     have hji7w : (IntKind.i64.wrap (a1 + 1)) = ji7 := (i64_w _).trans hji7
     by_cases c8 : 0 ≤ (ji7)
     ·
      rw [if_pos c8] at H
      have c8b0 : decide (0 ≤ (ji7)) = true := decide_eq_true c8
      clear c8
      by_cases c9 : (ji7) < (l0.length : Int)
      ·
       rw [if_pos c9] at H
       have c9b0 : decide ((ji7) < (l0.length : Int)) = true := decide_eq_true c9
       clear c9
       by_cases c10 : (rd l0 (ji7)) = 117
       ·
        rw [if_pos c10] at H
        have c10b0 : ((rd l0 (ji7)) == 117) = true := beq_iff_eq.mpr c10
        have c10b1 : ((rd l0 (ji7)) != 117) = false := bne_eq_false_iff_eq.mpr c10
        clear c10
        obtain ⟨ji11, hji11⟩ : ∃ j_ : Int, (wrap64 (a1 + 2)) = j_ := ⟨_, rfl⟩
        replace H : (if 0 ≤ (ji11) then (if (ji11) < (l0.length : Int) then (if (rd l0 (ji11)) = 101 then (some (wrap64 (a1 + 3), true)) else (some (a1, false))) else (none)) else (none)) = some (r1, r2) := by first | (rw [hji11] at H; exact H) | (simp only [hji11] at H ⊢; exact H)
        have hji11w : (IntKind.i64.wrap (a1 + 2)) = ji11 := (i64_w _).trans hji11
        by_cases c12 : 0 ≤ (ji11)
        ·
         rw [if_pos c12] at H
         have c12b0 : decide (0 ≤ (ji11)) = true := decide_eq_true c12
         clear c12
         by_cases c13 : (ji11) < (l0.length : Int)
         ·
          rw [if_pos c13] at H
          have c13b0 : decide ((ji11) < (l0.length : Int)) = true := decide_eq_true c13
          clear c13
          by_cases c14 : (rd l0 (ji11)) = 101
          ·
           rw [if_pos c14] at H
           have c14b0 : ((rd l0 (ji11)) == 101) = true := beq_iff_eq.mpr c14
           have c14b1 : ((rd l0 (ji11)) != 101) = false := bne_eq_false_iff_eq.mpr c14
           clear c14
           simp only [Option.some.injEq, Prod.mk.injEq] at H
           obtain ⟨rfl, rfl⟩ := H
           have p391 : 0 ≤ (a1 : Int) := of_decide_eq_true (by first | (with_reducible assumption) | assumption)
           have q391 : a1 < (l0.length : Int) := of_decide_eq_true (by first | (with_reducible assumption) | assumption)
           obtain ⟨ad391, e391, hx391_0⟩ := Kd.at_int HR0.out a1 p391 q391
           cases e391
           replace p391 := eq_true p391
           replace q391 := eq_true q391
           have p392 : 0 ≤ ((ji7) : Int) := of_decide_eq_true (by first | (with_reducible assumption) | assumption)
           have q392 : (ji7) < (l0.length : Int) := of_decide_eq_true (by first | (with_reducible assumption) | assumption)
           obtain ⟨ad392, e392, hx392_0⟩ := Kd.at_int HR0.out (ji7) p392 q392
           obtain rfl : ad391 = ad392 := (by injection e392)
           replace p392 := eq_true p392
           replace q392 := eq_true q392
           have p393 : 0 ≤ ((ji11) : Int) := of_decide_eq_true (by first | (with_reducible assumption) | assumption)
           have q393 : (ji11) < (l0.length : Int) := of_decide_eq_true (by first | (with_reducible assumption) | assumption)
           obtain ⟨ad393, e393, hx393_0⟩ := Kd.at_int HR0.out (ji11) p393 q393
           obtain rfl : ad391 = ad393 := (by injection e393)
           replace p393 := eq_true p393
           replace q393 := eq_true q393
           go_enter Try.func32, Try.ntmps32
           go_wp2
           go_ret2
           exact ⟨by first | rfl | (simp; done) | (simp only [← hji7, ← hji11] <;> (first | rfl | simp)) | (simp [*]; done), by repeat (first | exact Drawn0.refl _ | apply Drawn0.step)⟩
          ·
           rw [if_neg c14] at H
           have c14b0 : ((rd l0 (ji11)) == 101) = false := beq_eq_false_iff_ne.mpr c14
           have c14b1 : ((rd l0 (ji11)) != 101) = true := bne_iff_ne.mpr c14
           simp only [Option.some.injEq, Prod.mk.injEq] at H
           obtain ⟨rfl, rfl⟩ := H
           have p391 : 0 ≤ (a1 : Int) := of_decide_eq_true (by first | (with_reducible assumption) | assumption)
           have q391 : a1 < (l0.length : Int) := of_decide_eq_true (by first | (with_reducible assumption) | assumption)
           obtain ⟨ad391, e391, hx391_0⟩ := Kd.at_int HR0.out a1 p391 q391
           cases e391
           replace p391 := eq_true p391
           replace q391 := eq_true q391
           have p392 : 0 ≤ ((ji7) : Int) := of_decide_eq_true (by first | (with_reducible assumption) | assumption)
           have q392 : (ji7) < (l0.length : Int) := of_decide_eq_true (by first | (with_reducible assumption) | assumption)
           obtain ⟨ad392, e392, hx392_0⟩ := Kd.at_int HR0.out (ji7) p392 q392
           obtain rfl : ad391 = ad392 := (by injection e392)
           replace p392 := eq_true p392
           replace q392 := eq_true q392
           have p393 : 0 ≤ ((ji11) : Int) := of_decide_eq_true (by first | (with_reducible assumption) | assumption)
           have q393 : (ji11) < (l0.length : Int) := of_decide_eq_true (by first | (with_reducible assumption) | assumption)
           obtain ⟨ad393, e393, hx393_0⟩ := Kd.at_int HR0.out (ji11) p393 q393
           obtain rfl : ad391 = ad393 := (by injection e393)
           replace p393 := eq_true p393
           replace q393 := eq_true q393
           go_enter Try.func32, Try.ntmps32
           go_wp2
           go_ret2
           exact ⟨by first | rfl | (simp; done) | (simp only [← hji7, ← hji11] <;> (first | rfl | simp)) | (simp [*]; done), by repeat (first | exact Drawn0.refl _ | apply Drawn0.step)⟩
         ·
          rw [if_neg c13] at H
          exact absurd H (by simp)
        ·
         rw [if_neg c12] at H
         exact absurd H (by simp)
       ·
        rw [if_neg c10] at H
        have c10b0 : ((rd l0 (ji7)) == 117) = false := beq_eq_false_iff_ne.mpr c10
        have c10b1 : ((rd l0 (ji7)) != 117) = true := bne_iff_ne.mpr c10
        simp only [Option.some.injEq, Prod.mk.injEq] at H
        obtain ⟨rfl, rfl⟩ := H
        have p391 : 0 ≤ (a1 : Int) := of_decide_eq_true (by first | (with_reducible assumption) | assumption)
        have q391 : a1 < (l0.length : Int) := of_decide_eq_true (by first | (with_reducible assumption) | assumption)
        obtain ⟨ad391, e391, hx391_0⟩ := Kd.at_int HR0.out a1 p391 q391
        cases e391
        replace p391 := eq_true p391
        replace q391 := eq_true q391
        have p392 : 0 ≤ ((ji7) : Int) := of_decide_eq_true (by first | (with_reducible assumption) | assumption)
        have q392 : (ji7) < (l0.length : Int) := of_decide_eq_true (by first | (with_reducible assumption) | assumption)
        obtain ⟨ad392, e392, hx392_0⟩ := Kd.at_int HR0.out (ji7) p392 q392
        obtain rfl : ad391 = ad392 := (by injection e392)
        replace p392 := eq_true p392
        replace q392 := eq_true q392
        go_enter Try.func32, Try.ntmps32
        go_wp2
        go_ret2
        exact ⟨by first | rfl | (simp; done) | (simp only [← hji7] <;> (first | rfl | simp)) | (simp [*]; done), by repeat (first | exact Drawn0.refl _ | apply Drawn0.step)⟩
      ·
       rw [if_neg c9] at H
       exact absurd H (by simp)
     ·
      rw [if_neg c8] at H
      exact absurd H (by simp)
    ·
     rw [if_neg c6] at H
     have c6b0 : ((rd l0 a1) == 114) = false := beq_eq_false_iff_ne.mpr c6
     have c6b1 : ((rd l0 a1) != 114) = true := bne_iff_ne.mpr c6
     simp only [Option.some.injEq, Prod.mk.injEq] at H
     obtain ⟨rfl, rfl⟩ := H
     have p391 : 0 ≤ (a1 : Int) := of_decide_eq_true (by first | (with_reducible assumption) | assumption)
     have q391 : a1 < (l0.length : Int) := of_decide_eq_true (by first | (with_reducible assumption) | assumption)
     obtain ⟨ad391, e391, hx391_0⟩ := Kd.at_int HR0.out a1 p391 q391
     cases e391
     replace p391 := eq_true p391
     replace q391 := eq_true q391
     go_enter Try.func32, Try.ntmps32
     go_wp2
     go_ret2
     exact ⟨by first | rfl | (simp; done) | (simp [*]; done) | (simp; rw [Bool.eq_iff_iff]; simp; done), by repeat (first | exact Drawn0.refl _ | apply Drawn0.step)⟩
   ·
    rw [if_neg c5] at H
    exact absurd H (by simp)
  ·
   rw [if_neg c4] at H
   exact absurd H (by simp)
 ·
  rw [if_neg c3] at H
  have c3b0 : decide ((wrap64 (a1 + 3)) ≤ (l0.length : Int)) = false := decide_eq_false c3
  clear c3
  simp only [Option.some.injEq, Prod.mk.injEq] at H
  obtain ⟨rfl, rfl⟩ := H
  go_enter Try.func32, Try.ntmps32
  go_wp2
  go_ret2
  exact ⟨by first | rfl | (simp; done) | (simp [*]; done) | (simp; rw [Bool.eq_iff_iff]; simp; done), by repeat (first | exact Drawn0.refl _ | apply Drawn0.step)⟩

/-! ### gjson_validfalse: function 33 -/
def gjson_validfalse.f (l0 : List Int) (a1 : Int) : Option (Int × Bool) := if (wrap64 (a1 + 4)) ≤ (l0.length : Int) then (if 0 ≤ a1 then (if a1 < (l0.length : Int) then (if (rd l0 a1) = 97 then (if 0 ≤ (wrap64 (a1 + 1)) then (if (wrap64 (a1 + 1)) < (l0.length : Int) then (if (rd l0 (wrap64 (a1 + 1))) = 108 then (if 0 ≤ (wrap64 (a1 + 2)) then (if (wrap64 (a1 + 2)) < (l0.length : Int) then (if (rd l0 (wrap64 (a1 + 2))) = 115 then (if 0 ≤ (wrap64 (a1 + 3)) then (if (wrap64 (a1 + 3)) < (l0.length : Int) then (if (rd l0 (wrap64 (a1 + 3))) = 101 then (some (wrap64 (a1 + 4), true)) else (some (a1, false))) else (none)) else (none)) else (some (a1, false))) else (none)) else (none)) else (some (a1, false))) else (none)) else (none)) else (some (a1, false))) else (none)) else (none)) else (some (a1, false))
set_option maxHeartbeats 8000000 in
set_option maxRecDepth 100000 in
theorem gjson_validfalse.calls (A0 : Option Addr) (c0 : Nat) (l0 : List Int) (a1 : Int) (r1 : Int) (r2 : Bool) (w : World) (hr0 : Kd.C (Kd.int .u8) w A0 l0.length l0) (hc0 : l0.length ≤ c0) (h : gjson_validfalse.f l0 a1 = some (r1, r2)) :
  Calls Try.prog 33 #[.slice A0 l0.length c0, .int .i64 a1] w fun e w' => e = .returned (.tuple #[.int .i64 r1, .bool r2]) ∧ Drawn0 w w' := by
 have HR0 := Aside0.mk hr0
 have HC0 := Aside0.mk hc0
 clear hr0 hc0
 have H : (if (wrap64 (a1 + 4)) ≤ (l0.length : Int) then (if 0 ≤ a1 then (if a1 < (l0.length : Int) then (if (rd l0 a1) = 97 then (if 0 ≤ (wrap64 (a1 + 1)) then (if (wrap64 (a1 + 1)) < (l0.length : Int) then (if (rd l0 (wrap64 (a1 + 1))) = 108 then (if 0 ≤ (wrap64 (a1 + 2)) then (if (wrap64 (a1 + 2)) < (l0.length : Int) then (if (rd l0 (wrap64 (a1 + 2))) = 115 then (if 0 ≤ (wrap64 (a1 + 3)) then (if (wrap64 (a1 + 3)) < (l0.length : Int) then (if (rd l0 (wrap64 (a1 + 3))) = 101 then (some (wrap64 (a1 + 4), true)) else (some (a1, false))) else (none)) else (none)) else (some (a1, false))) else (none)) else (none)) else (some (a1, false))) else (none)) else (none)) else (some (a1, false))) else (none)) else (none)) else (some (a1, false))) = some (r1, r2) := h
 clear h
 by_cases c3 : (wrap64 (a1 + 4)) ≤ (l0.length : Int)
 ·
  rw [if_pos c3] at H
  have c3b0 : decide ((wrap64 (a1 + 4)) ≤ (l0.length : Int)) = true := decide_eq_true c3
  clear c3
  by_cases c4 : 0 ≤ a1
  ·
   rw [if_pos c4] at H
   have c4b0 : decide (0 ≤ a1) = true := decide_eq_true c4
   clear c4
   by_cases c5 : a1 < (l0.length : Int)
   ·
    rw [if_pos c5] at H
    have c5b0 : decide (a1 < (l0.length : Int)) = true := decide_eq_true c5
    clear c5
    by_cases c6 : (rd l0 a1) = 97
    ·
     rw [if_pos c6] at H
     have c6b0 : ((rd l0 a1) == 97) = true := beq_iff_eq.mpr c6
     have c6b1 : ((rd l0 a1) != 97) = false := bne_eq_false_iff_eq.mpr c6
     clear c6
     obtain ⟨ji7, hji7⟩ : ∃ j_ : Int, (wrap64 (a1 + 1)) = j_ := ⟨_, rfl⟩
     replace H : (if 0 ≤ (ji7) then (if (ji7) < (l0.length : Int) then (if (rd l0 (ji7)) = 108 then (if 0 ≤ (wrap64 (a1 + 2)) then (if (wrap64 (a1 + 2)) < (l0.length : Int) then (if (rd l0 (wrap64 (a1 + 2))) = 115 then (if 0 ≤ (wrap64 (a1 + 3)) then (if (wrap64 (a1 + 3)) < (l0.length : Int) then (if (rd l0 (wrap64 (a1 + 3))) = 101 then (some (wrap64 (a1 + 4), true)) else (some (a1, false))) else (none)) else (none)) else (some (a1, false))) else (none)) else (none)) else (some (a1, false))) else (none)) else (none)) = some (r1, r2) := by first | (rw [hji7] at H; exact H) | (simp only [hji7] at H ⊢; exact H)
     have hji7w : (IntKind.i64.wrap (a1 + 1)) = ji7 := (i64_w _).trans hji7
     by_cases c8 : 0 ≤ (ji7)
     ·
      rw [if_pos c8] at H
      have c8b0 : decide (0 ≤ (ji7)) = true := decide_eq_true c8
      clear c8
      by_cases c9 : (ji7) < (l0.length : Int)
      ·
       rw [if_pos c9] at H
       have c9b0 : decide ((ji7) < (l0.length : Int)) = true := decide_eq_true c9
       clear c9
       by_cases c10 : (rd l0 (ji7)) = 108
       ·
        rw [if_pos c10] at H
        have c10b0 : ((rd l0 (ji7)) == 108) = true := beq_iff_eq.mpr c10
        have c10b1 : ((rd l0 (ji7)) != 108) = false := bne_eq_false_iff_eq.mpr c10
        clear c10
        obtain ⟨ji11, hji11⟩ : ∃ j_ : Int, (wrap64 (a1 + 2)) = j_ := ⟨_, rfl⟩
        replace H : (if 0 ≤ (ji11) then (if (ji11) < (l0.length : Int) then (if (rd l0 (ji11)) = 115 then (if 0 ≤ (wrap64 (a1 + 3)) then (if (wrap64 (a1 + 3)) < (l0.length : Int) then (if (rd l0 (wrap64 (a1 + 3))) = 101 then (some (wrap64 (a1 + 4), true)) else (some (a1, false))) else (none)) else (none)) else (some (a1, false))) else (none)) else (none)) = some (r1, r2) := by first | (rw [hji11] at H; exact H) | (simp only [hji11] at H ⊢; exact H)
        have hji11w : (IntKind.i64.wrap (a1 + 2)) = ji11 := (i64_w _).trans hji11
        by_cases c12 : 0 ≤ (ji11)
        ·
         rw [if_pos c12] at H
         have c12b0 : decide (0 ≤ (ji11)) = true := decide_eq_true c12
         clear c12
         by_cases c13 : (ji11) < (l0.length : Int)
         ·
          rw [if_pos c13] at H
          have c13b0 : decide ((ji11) < (l0.length : Int)) = true := decide_eq_true c13
          clear c13
          by_cases c14 : (rd l0 (ji11)) = 115
          ·
           rw [if_pos c14] at H
           have c14b0 : ((rd l0 (ji11)) == 115) = true := beq_iff_eq.mpr c14
           have c14b1 : ((rd l0 (ji11)) != 115) = false := bne_eq_false_iff_eq.mpr c14
           clear c14
           obtain ⟨ji15, hji15⟩ : ∃ j_ : Int, (wrap64 (a1 + 3)) = j_ := ⟨_, rfl⟩
           replace H : (if 0 ≤ (ji15) then (if (ji15) < (l0.length : Int) then (if (rd l0 (ji15)) = 101 then (some (wrap64 (a1 + 4), true)) else (some (a1, false))) else (none)) else (none)) = some (r1, r2) := by first | (rw [hji15] at H; exact H) | (simp only [hji15] at H ⊢; exact H)
           have hji15w : (IntKind.i64.wrap (a1 + 3)) = ji15 := (i64_w _).trans hji15
           by_cases c16 : 0 ≤ (ji15)
           ·
            rw [if_pos c16] at H
            have c16b0 : decide (0 ≤ (ji15)) = true := decide_eq_true c16
            clear c16
            by_cases c17 : (ji15) < (l0.length : Int)
            ·
             rw [if_pos c17] at H
             have c17b0 : decide ((ji15) < (l0.length : Int)) = true := decide_eq_true c17
             clear c17
             by_cases c18 : (rd l0 (ji15)) = 101
             ·
              rw [if_pos c18] at H
              have c18b0 : ((rd l0 (ji15)) == 101) = true := beq_iff_eq.mpr c18
              have c18b1 : ((rd l0 (ji15)) != 101) = false := bne_eq_false_iff_eq.mpr c18
              clear c18
              simp only [Option.some.injEq, Prod.mk.injEq] at H
              obtain ⟨rfl, rfl⟩ := H
              have p394 : 0 ≤ (a1 : Int) := of_decide_eq_true (by first | (with_reducible assumption) | assumption)
              have q394 : a1 < (l0.length : Int) := of_decide_eq_true (by first | (with_reducible assumption) | assumption)
              obtain ⟨ad394, e394, hx394_0⟩ := Kd.at_int HR0.out a1 p394 q394
              cases e394
              replace p394 := eq_true p394
              replace q394 := eq_true q394
              have p395 : 0 ≤ ((ji7) : Int) := of_decide_eq_true (by first | (with_reducible assumption) | assumption)
              have q395 : (ji7) < (l0.length : Int) := of_decide_eq_true (by first | (with_reducible assumption) | assumption)
              obtain ⟨ad395, e395, hx395_0⟩ := Kd.at_int HR0.out (ji7) p395 q395
              obtain rfl : ad394 = ad395 := (by injection e395)
              replace p395 := eq_true p395
              replace q395 := eq_true q395
              have p396 : 0 ≤ ((ji11) : Int) := of_decide_eq_true (by first | (with_reducible assumption) | assumption)
              have q396 : (ji11) < (l0.length : Int) := of_decide_eq_true (by first | (with_reducible assumption) | assumption)
              obtain ⟨ad396, e396, hx396_0⟩ := Kd.at_int HR0.out (ji11) p396 q396
              obtain rfl : ad394 = ad396 := (by injection e396)
              replace p396 := eq_true p396
              replace q396 := eq_true q396
              have p397 : 0 ≤ ((ji15) : Int) := of_decide_eq_true (by first | (with_reducible assumption) | assumption)
              have q397 : (ji15) < (l0.length : Int) := of_decide_eq_true (by first | (with_reducible assumption) | assumption)
              obtain ⟨ad397, e397, hx397_0⟩ := Kd.at_int HR0.out (ji15) p397 q397
              obtain rfl : ad394 = ad397 := (by injection e397)
              replace p397 := eq_true p397
              replace q397 := eq_true q397
              go_enter Try.func33, Try.ntmps33
              go_wp2
              go_ret2
              exact ⟨by first | rfl | (simp; done) | (simp only [← hji7, ← hji11, ← hji15] <;> (first | rfl | simp)) | (simp [*]; done), by repeat (first | exact Drawn0.refl _ | apply Drawn0.step)⟩
             ·
              rw [if_neg c18] at H
              have c18b0 : ((rd l0 (ji15)) == 101) = false := beq_eq_false_iff_ne.mpr c18
              have c18b1 : ((rd l0 (ji15)) != 101) = true := bne_iff_ne.mpr c18
              simp only [Option.some.injEq, Prod.mk.injEq] at H
              obtain ⟨rfl, rfl⟩ := H
              have p394 : 0 ≤ (a1 : Int) := of_decide_eq_true (by first | (with_reducible assumption) | assumption)
              have q394 : a1 < (l0.length : Int) := of_decide_eq_true (by first | (with_reducible assumption) | assumption)
              obtain ⟨ad394, e394, hx394_0⟩ := Kd.at_int HR0.out a1 p394 q394
              cases e394
              replace p394 := eq_true p394
              replace q394 := eq_true q394
              have p395 : 0 ≤ ((ji7) : Int) := of_decide_eq_true (by first | (with_reducible assumption) | assumption)
              have q395 : (ji7) < (l0.length : Int) := of_decide_eq_true (by first | (with_reducible assumption) | assumption)
              obtain ⟨ad395, e395, hx395_0⟩ := Kd.at_int HR0.out (ji7) p395 q395
              obtain rfl : ad394 = ad395 := (by injection e395)
              replace p395 := eq_true p395
              replace q395 := eq_true q395
              have p396 : 0 ≤ ((ji11) : Int) := of_decide_eq_true (by first | (with_reducible assumption) | assumption)
              have q396 : (ji11) < (l0.length : Int) := of_decide_eq_true (by first | (with_reducible assumption) | assumption)
              obtain ⟨ad396, e396, hx396_0⟩ := Kd.at_int HR0.out (ji11) p396 q396
              obtain rfl : ad394 = ad396 := (by injection e396)
              replace p396 := eq_true p396
              replace q396 := eq_true q396
              have p397 : 0 ≤ ((ji15) : Int) := of_decide_eq_true (by first | (with_reducible assumption) | assumption)
              have q397 : (ji15) < (l0.length : Int) := of_decide_eq_true (by first | (with_reducible assumption) | assumption)
              obtain ⟨ad397, e397, hx397_0⟩ := Kd.at_int HR0.out (ji15) p397 q397
              obtain rfl : ad394 = ad397 := (by injection e397)
              replace p397 := eq_true p397
              replace q397 := eq_true q397
              go_enter Try.func33, Try.ntmps33
              go_wp2
              go_ret2
              exact ⟨by first | rfl | (simp; done) | (simp only [← hji7, ← hji11, ← hji15] <;> (first | rfl | simp)) | (simp [*]; done), by repeat (first | exact Drawn0.refl _ | apply Drawn0.step)⟩
            ·
             rw [if_neg c17] at H
             exact absurd H (by simp)
           ·
            rw [if_neg c16] at H
            exact absurd H (by simp)
          ·
           rw [if_neg c14] at H
           have c14b0 : ((rd l0 (ji11)) == 115) = false := beq_eq_false_iff_ne.mpr c14
           have c14b1 : ((rd l0 (ji11)) != 115) = true := bne_iff_ne.mpr c14
           simp only [Option.some.injEq, Prod.mk.injEq] at H
           obtain ⟨rfl, rfl⟩ := H
           have p394 : 0 ≤ (a1 : Int) := of_decide_eq_true (by first | (with_reducible assumption) | assumption)
           have q394 : a1 < (l0.length : Int) := of_decide_eq_true (by first | (with_reducible assumption) | assumption)
           obtain ⟨ad394, e394, hx394_0⟩ := Kd.at_int HR0.out a1 p394 q394
           cases e394
           replace p394 := eq_true p394
           replace q394 := eq_true q394
           have p395 : 0 ≤ ((ji7) : Int) := of_decide_eq_true (by first | (with_reducible assumption) | assumption)
           have q395 : (ji7) < (l0.length : Int) := of_decide_eq_true (by first | (with_reducible assumption) | assumption)
           obtain ⟨ad395, e395, hx395_0⟩ := Kd.at_int HR0.out (ji7) p395 q395
           obtain rfl : ad394 = ad395 := (by injection e395)
           replace p395 := eq_true p395
           replace q395 := eq_true q395
           have p396 : 0 ≤ ((ji11) : Int) := of_decide_eq_true (by first | (with_reducible assumption) | assumption)
           have q396 : (ji11) < (l0.length : Int) := of_decide_eq_true (by first | (with_reducible assumption) | assumption)
           obtain ⟨ad396, e396, hx396_0⟩ := Kd.at_int HR0.out (ji11) p396 q396
           obtain rfl : ad394 = ad396 := (by injection e396)
           replace p396 := eq_true p396
           replace q396 := eq_true q396
           go_enter Try.func33, Try.ntmps33
           go_wp2
           go_ret2
           exact ⟨by first | rfl | (simp; done) | (simp only [← hji7, ← hji11] <;> (first | rfl | simp)) | (simp [*]; done), by repeat (first | exact Drawn0.refl _ | apply Drawn0.step)⟩
         ·
          rw [if_neg c13] at H
          exact absurd H (by simp)
        ·
         rw [if_neg c12] at H
         exact absurd H (by simp)
       ·
        rw [if_neg c10] at H
        have c10b0 : ((rd l0 (ji7)) == 108) = false := beq_eq_false_iff_ne.mpr c10
        have c10b1 : ((rd l0 (ji7)) != 108) = true := bne_iff_ne.mpr c10
        simp only [Option.some.injEq, Prod.mk.injEq] at H
        obtain ⟨rfl, rfl⟩ := H
        have p394 : 0 ≤ (a1 : Int) := of_decide_eq_true (by first | (with_reducible assumption) | assumption)
        have q394 : a1 < (l0.length : Int) := of_decide_eq_true (by first | (with_reducible assumption) | assumption)
        obtain ⟨ad394, e394, hx394_0⟩ := Kd.at_int HR0.out a1 p394 q394
        cases e394
        replace p394 := eq_true p394
        replace q394 := eq_true q394
        have p395 : 0 ≤ ((ji7) : Int) := of_decide_eq_true (by first | (with_reducible assumption) | assumption)
        have q395 : (ji7) < (l0.length : Int) := of_decide_eq_true (by first | (with_reducible assumption) | assumption)
        obtain ⟨ad395, e395, hx395_0⟩ := Kd.at_int HR0.out (ji7) p395 q395
        obtain rfl : ad394 = ad395 := (by injection e395)
        replace p395 := eq_true p395
        replace q395 := eq_true q395
        go_enter Try.func33, Try.ntmps33
        go_wp2
        go_ret2
        exact ⟨by first | rfl | (simp; done) | (simp only [← hji7] <;> (first | rfl | simp)) | (simp [*]; done), by repeat (first | exact Drawn0.refl _ | apply Drawn0.step)⟩
      ·
       rw [if_neg c9] at H
       exact absurd H (by simp)
     ·
      rw [if_neg c8] at H
      exact absurd H (by simp)
    ·
     rw [if_neg c6] at H
     have c6b0 : ((rd l0 a1) == 97) = false := beq_eq_false_iff_ne.mpr c6
     have c6b1 : ((rd l0 a1) != 97) = true := bne_iff_ne.mpr c6
     simp only [Option.some.injEq, Prod.mk.injEq] at H
     obtain ⟨rfl, rfl⟩ := H
     have p394 : 0 ≤ (a1 : Int) := of_decide_eq_true (by first | (with_reducible assumption) | assumption)
     have q394 : a1 < (l0.length : Int) := of_decide_eq_true (by first | (with_reducible assumption) | assumption)
     obtain ⟨ad394, e394, hx394_0⟩ := Kd.at_int HR0.out a1 p394 q394
     cases e394
     replace p394 := eq_true p394
     replace q394 := eq_true q394
     go_enter Try.func33, Try.ntmps33
     go_wp2
     go_ret2
     exact ⟨by first | rfl | (simp; done) | (simp [*]; done) | (simp; rw [Bool.eq_iff_iff]; simp; done), by repeat (first | exact Drawn0.refl _ | apply Drawn0.step)⟩
   ·
    rw [if_neg c5] at H
    exact absurd H (by simp)
  ·
   rw [if_neg c4] at H
   exact absurd H (by simp)
 ·
  rw [if_neg c3] at H
  have c3b0 : decide ((wrap64 (a1 + 4)) ≤ (l0.length : Int)) = false := decide_eq_false c3
  clear c3
  simp only [Option.some.injEq, Prod.mk.injEq] at H
  obtain ⟨rfl, rfl⟩ := H
  go_enter Try.func33, Try.ntmps33
  go_wp2
  go_ret2
  exact ⟨by first | rfl | (simp; done) | (simp [*]; done) | (simp; rw [Bool.eq_iff_iff]; simp; done), by repeat (first | exact Drawn0.refl _ | apply Drawn0.step)⟩

/-! ### gjson_validnull: function 34 -/
def gjson_validnull.f (l0 : List Int) (a1 : Int) : Option (Int × Bool) := if (wrap64 (a1 + 3)) ≤ (l0.length : Int) then (if 0 ≤ a1 then (if a1 < (l0.length : Int) then (if (rd l0 a1) = 117 then (if 0 ≤ (wrap64 (a1 + 1)) then (if (wrap64 (a1 + 1)) < (l0.length : Int) then (if (rd l0 (wrap64 (a1 + 1))) = 108 then (if 0 ≤ (wrap64 (a1 + 2)) then (if (wrap64 (a1 + 2)) < (l0.length : Int) then (if (rd l0 (wrap64 (a1 + 2))) = 108 then (some (wrap64 (a1 + 3), true)) else (some (a1, false))) else (none)) else (none)) else (some (a1, false))) else (none)) else (none)) else (some (a1, false))) else (none)) else (none)) else (some (a1, false))
set_option maxHeartbeats 8000000 in
set_option maxRecDepth 100000 in
theorem gjson_validnull.calls (A0 : Option Addr) (c0 : Nat) (l0 : List Int) (a1 : Int) (r1 : Int) (r2 : Bool) (w : World) (hr0 : Kd.C (Kd.int .u8) w A0 l0.length l0) (hc0 : l0.length ≤ c0) (h : gjson_validnull.f l0 a1 = some (r1, r2)) :
  Calls Try.prog 34 #[.slice A0 l0.length c0, .int .i64 a1] w fun e w' => e = .returned (.tuple #[.int .i64 r1, .bool r2]) ∧ Drawn0 w w' := by
 have HR0 := Aside0.mk hr0
 have HC0 := Aside0.mk hc0
 clear hr0 hc0
 have H : (if (wrap64 (a1 + 3)) ≤ (l0.length : Int) then (if 0 ≤ a1 then (if a1 < (l0.length : Int) then (if (rd l0 a1) = 117 then (if 0 ≤ (wrap64 (a1 + 1)) then (if (wrap64 (a1 + 1)) < (l0.length : Int) then (if (rd l0 (wrap64 (a1 + 1))) = 108 then (if 0 ≤ (wrap64 (a1 + 2)) then (if (wrap64 (a1 + 2)) < (l0.length : Int) then (if (rd l0 (wrap64 (a1 + 2))) = 108 then (some (wrap64 (a1 + 3), true)) else (some (a1, false))) else (none)) else (none)) else (some (a1, false))) else (none)) else (none)) else (some (a1, false))) else (none)) else (none)) else (some (a1, false))) = some (r1, r2) := h
 clear h
 by_cases c3 : (wrap64 (a1 + 3)) ≤ (l0.length : Int)
 ·
  rw [if_pos c3] at H
  have c3b0 : decide ((wrap64 (a1 + 3)) ≤ (l0.length : Int)) = true := decide_eq_true c3
  clear c3
  by_cases c4 : 0 ≤ a1
  ·
   rw [if_pos c4] at H
   have c4b0 : decide (0 ≤ a1) = true := decide_eq_true c4
   clear c4
   by_cases c5 : a1 < (l0.length : Int)
   ·
    rw [if_pos c5] at H
    have c5b0 : decide (a1 < (l0.length : Int)) = true := decide_eq_true c5
    clear c5
    by_cases c6 : (rd l0 a1) = 117
    ·
     rw [if_pos c6] at H
     have c6b0 : ((rd l0 a1) == 117) = true := beq_iff_eq.mpr c6
     have c6b1 : ((rd l0 a1) != 117) = false := bne_eq_false_iff_eq.mpr c6
     clear c6
     obtain ⟨ji7, hji7⟩ : ∃ j_ : Int, (wrap64 (a1 + 1)) = j_ := ⟨_, rfl⟩
     replace H : (if 0 ≤ (ji7) then (if (ji7) < (l0.length : Int) then (if (rd l0 (ji7)) = 108 then (if 0 ≤ (wrap64 (a1 + 2)) then (if (wrap64 (a1 + 2)) < (l0.length : Int) then (if (rd l0 (wrap64 (a1 + 2))) = 108 then (some (wrap64 (a1 + 3), true)) else (some (a1, false))) else (none)) else (none)) else (some (a1, false))) else (none)) else (none)) = some (r1, r2) := by first | (rw [hji7] at H; exact H) | (simp only [hji7] at H ⊢; exact H)
     have hji7w : (IntKind.i64.wrap (a1 + 1)) = ji7 := (i64_w _).trans hji7
     by_cases c8 : 0 ≤ (ji7)
     ·
      rw [if_pos c8] at H
      have c8b0 : decide (0 ≤ (ji7)) = true := decide_eq_true c8
      clear c8
      by_cases c9 : (ji7) < (l0.length : Int)
      ·
       rw [if_pos c9] at H
       have c9b0 : decide ((ji7) < (l0.length : Int)) = true := decide_eq_true c9
       clear c9
       by_cases c10 : (rd l0 (ji7)) = 108
       ·
        rw [if_pos c10] at H
        have c10b0 : ((rd l0 (ji7)) == 108) = true := beq_iff_eq.mpr c10
        have c10b1 : ((rd l0 (ji7)) != 108) = false := bne_eq_false_iff_eq.mpr c10
        clear c10
        obtain ⟨ji11, hji11⟩ : ∃ j_ : Int, (wrap64 (a1 + 2)) = j_ := ⟨_, rfl⟩
        replace H : (if 0 ≤ (ji11) then (if (ji11) < (l0.length : Int) then (if (rd l0 (ji11)) = 108 then (some (wrap64 (a1 + 3), true)) else (some (a1, false))) else (none)) else (none)) = some (r1, r2) := by first | (rw [hji11] at H; exact H) | (simp only [hji11] at H ⊢; exact H)
        have hji11w : (IntKind.i64.wrap (a1 + 2)) = ji11 := (i64_w _).trans hji11
        by_cases c12 : 0 ≤ (ji11)
        ·
         rw [if_pos c12] at H
         have c12b0 : decide (0 ≤ (ji11)) = true := decide_eq_true c12
         clear c12
         by_cases c13 : (ji11) < (l0.length : Int)
         ·
          rw [if_pos c13] at H
          have c13b0 : decide ((ji11) < (l0.length : Int)) = true := decide_eq_true c13
          clear c13
          by_cases c14 : (rd l0 (ji11)) = 108
          ·
           rw [if_pos c14] at H
           have c14b0 : ((rd l0 (ji11)) == 108) = true := beq_iff_eq.mpr c14
           have c14b1 : ((rd l0 (ji11)) != 108) = false := bne_eq_false_iff_eq.mpr c14
           clear c14
           simp only [Option.some.injEq, Prod.mk.injEq] at H
           obtain ⟨rfl, rfl⟩ := H
           have p398 : 0 ≤ (a1 : Int) := of_decide_eq_true (by first | (with_reducible assumption) | assumption)
           have q398 : a1 < (l0.length : Int) := of_decide_eq_true (by first | (with_reducible assumption) | assumption)
           obtain ⟨ad398, e398, hx398_0⟩ := Kd.at_int HR0.out a1 p398 q398
           cases e398
           replace p398 := eq_true p398
           replace q398 := eq_true q398
           have p399 : 0 ≤ ((ji7) : Int) := of_decide_eq_true (by first | (with_reducible assumption) | assumption)
           have q399 : (ji7) < (l0.length : Int) := of_decide_eq_true (by first | (with_reducible assumption) | assumption)
           obtain ⟨ad399, e399, hx399_0⟩ := Kd.at_int HR0.out (ji7) p399 q399
           obtain rfl : ad398 = ad399 := (by injection e399)
           replace p399 := eq_true p399
           replace q399 := eq_true q399
           have p400 : 0 ≤ ((ji11) : Int) := of_decide_eq_true (by first | (with_reducible assumption) | assumption)
           have q400 : (ji11) < (l0.length : Int) := of_decide_eq_true (by first | (with_reducible assumption) | assumption)
           obtain ⟨ad400, e400, hx400_0⟩ := Kd.at_int HR0.out (ji11) p400 q400
           obtain rfl : ad398 = ad400 := (by injection e400)
           replace p400 := eq_true p400
           replace q400 := eq_true q400
           go_enter Try.func34, Try.ntmps34
           go_wp2
           go_ret2
           exact ⟨by first | rfl | (simp; done) | (simp only [← hji7, ← hji11] <;> (first | rfl | simp)) | (simp [*]; done), by repeat (first | exact Drawn0.refl _ | apply Drawn0.step)⟩
          ·
           rw [if_neg c14] at H
           have c14b0 : ((rd l0 (ji11)) == 108) = false := beq_eq_false_iff_ne.mpr c14
           have c14b1 : ((rd l0 (ji11)) != 108) = true := bne_iff_ne.mpr c14
           simp only [Option.some.injEq, Prod.mk.injEq] at H
           obtain ⟨rfl, rfl⟩ := H
           have p398 : 0 ≤ (a1 : Int) := of_decide_eq_true (by first | (with_reducible assumption) | assumption)
           have q398 : a1 < (l0.length : Int) := of_decide_eq_true (by first | (with_reducible assumption) | assumption)
           obtain ⟨ad398, e398, hx398_0⟩ := Kd.at_int HR0.out a1 p398 q398
           cases e398
           replace p398 := eq_true p398
           replace q398 := eq_true q398
           have p399 : 0 ≤ ((ji7) : Int) := of_decide_eq_true (by first | (with_reducible assumption) | assumption)
           have q399 : (ji7) < (l0.length : Int) := of_decide_eq_true (by first | (with_reducible assumption) | assumption)
           obtain ⟨ad399, e399, hx399_0⟩ := Kd.at_int HR0.out (ji7) p399 q399
           obtain rfl : ad398 = ad399 := (by injection e399)
           replace p399 := eq_true p399
           replace q399 := eq_true q399
           have p400 : 0 ≤ ((ji11) : Int) := of_decide_eq_true (by first | (with_reducible assumption) | assumption)
           have q400 : (ji11) < (l0.length : Int) := of_decide_eq_true (by first | (with_reducible assumption) | assumption)
           obtain ⟨ad400, e400, hx400_0⟩ := Kd.at_int HR0.out (ji11) p400 q400
           obtain rfl : ad398 = ad400 := (by injection e400)
           replace p400 := eq_true p400
           replace q400 := eq_true q400
           go_enter Try.func34, Try.ntmps34
           go_wp2
           go_ret2
           exact ⟨by first | rfl | (simp; done) | (simp only [← hji7, ← hji11] <;> (first | rfl | simp)) | (simp [*]; done), by repeat (first | exact Drawn0.refl _ | apply Drawn0.step)⟩
         ·
          rw [if_neg c13] at H
          exact absurd H (by simp)
        ·
         rw [if_neg c12] at H
         exact absurd H (by simp)
       ·
        rw [if_neg c10] at H
        have c10b0 : ((rd l0 (ji7)) == 108) = false := beq_eq_false_iff_ne.mpr c10
        have c10b1 : ((rd l0 (ji7)) != 108) = true := bne_iff_ne.mpr c10
        simp only [Option.some.injEq, Prod.mk.injEq] at H
        obtain ⟨rfl, rfl⟩ := H
        have p398 : 0 ≤ (a1 : Int) := of_decide_eq_true (by first | (with_reducible assumption) | assumption)
        have q398 : a1 < (l0.length : Int) := of_decide_eq_true (by first | (with_reducible assumption) | assumption)
        obtain ⟨ad398, e398, hx398_0⟩ := Kd.at_int HR0.out a1 p398 q398
        cases e398
        replace p398 := eq_true p398
        replace q398 := eq_true q398
        have p399 : 0 ≤ ((ji7) : Int) := of_decide_eq_true (by first | (with_reducible assumption) | assumption)
        have q399 : (ji7) < (l0.length : Int) := of_decide_eq_true (by first | (with_reducible assumption) | assumption)
        obtain ⟨ad399, e399, hx399_0⟩ := Kd.at_int HR0.out (ji7) p399 q399
        obtain rfl : ad398 = ad399 := (by injection e399)
        replace p399 := eq_true p399
        replace q399 := eq_true q399
        go_enter Try.func34, Try.ntmps34
        go_wp2
        go_ret2
        exact ⟨by first | rfl | (simp; done) | (simp only [← hji7] <;> (first | rfl | simp)) | (simp [*]; done), by repeat (first | exact Drawn0.refl _ | apply Drawn0.step)⟩
      ·
       rw [if_neg c9] at H
       exact absurd H (by simp)
     ·
      rw [if_neg c8] at H
      exact absurd H (by simp)
    ·
     rw [if_neg c6] at H
     have c6b0 : ((rd l0 a1) == 117) = false := beq_eq_false_iff_ne.mpr c6
     have c6b1 : ((rd l0 a1) != 117) = true := bne_iff_ne.mpr c6
     simp only [Option.some.injEq, Prod.mk.injEq] at H
     obtain ⟨rfl, rfl⟩ := H
     have p398 : 0 ≤ (a1 : Int) := of_decide_eq_true (by first | (with_reducible assumption) | assumption)
     have q398 : a1 < (l0.length : Int) := of_decide_eq_true (by first | (with_reducible assumption) | assumption)
     obtain ⟨ad398, e398, hx398_0⟩ := Kd.at_int HR0.out a1 p398 q398
     cases e398
     replace p398 := eq_true p398
     replace q398 := eq_true q398
     go_enter Try.func34, Try.ntmps34
     go_wp2
     go_ret2
     exact ⟨by first | rfl | (simp; done) | (simp [*]; done) | (simp; rw [Bool.eq_iff_iff]; simp; done), by repeat (first | exact Drawn0.refl _ | apply Drawn0.step)⟩
   ·
    rw [if_neg c5] at H
    exact absurd H (by simp)
  ·
   rw [if_neg c4] at H
   exact absurd H (by simp)
 ·
  rw [if_neg c3] at H
  have c3b0 : decide ((wrap64 (a1 + 3)) ≤ (l0.length : Int)) = false := decide_eq_false c3
  clear c3
  simp only [Option.some.injEq, Prod.mk.injEq] at H
  obtain ⟨rfl, rfl⟩ := H
  go_enter Try.func34, Try.ntmps34
  go_wp2
  go_ret2
  exact ⟨by first | rfl | (simp; done) | (simp [*]; done) | (simp; rw [Bool.eq_iff_iff]; simp; done), by repeat (first | exact Drawn0.refl _ | apply Drawn0.step)⟩

-- NOT PRINTED: function 25 (gjson_validany)

-- NOT PRINTED: function 28 (gjson_validobject)

-- NOT PRINTED: function 29 (gjson_validarray)

-- NOT PRINTED: function 17 (gjson_validpayload)

-- NOT PRINTED: function 18 (gjson_stringBytes)

-- NOT PRINTED: function 12 (gjson_Valid)

-- NOT PRINTED: function 6 (impl_GjValid)

-- NOT PRINTED: function 3 (laws_FnPrSpecAgain)

end Go.Proofs.Ytdokakhhpcckaaa.MFnPrSpecAgain
