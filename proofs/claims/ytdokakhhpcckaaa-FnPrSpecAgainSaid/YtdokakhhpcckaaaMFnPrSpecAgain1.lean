/- What Go functions compute, as functions of numbers and lists, and the walks that show it. No condition. Written by a program (wip/tools/mprint.py) over the kit's print. -/
import Derived.Test.YtdokakhhpcckaaaMFnPrSpecAgain0
namespace Go.Proofs.Ytdokakhhpcckaaa.MFnPrSpecAgain
open Go.RowKit Go.Proofs.YtdokakhhpcckaaaW.PrintWords Go.Proofs.YtdokakhhpcckaaaW.PrintLast Go.Proofs.YtdokakhhpcckaaaW.PrintMore
attribute [local go_sem] max2_int min2_int max_two min_two max_three min_three max_four min_four   -- for this text's walks alone
set_option linter.unusedVariables false
set_option linter.unusedSimpArgs false

/-! ### spec_comment: function 7 -/
mutual
def spec_comment.j0 : Nat → ByteArray → Int → Bool → Option (Int × Bool)
 | 0, _, _, _ => none
 | k + 1, x0, x1, x30 => if x30 = true then (some (x1, false)) else (spec_comment.l0 k x0 x1 (wrap64 (x1 + 2)))
def spec_comment.l0 : Nat → ByteArray → Int → Int → Option (Int × Bool)
 | 0, _, _, _ => none
 | k + 1, x0, x1, x6 => if x6 < (x0.size : Int) then (if 0 ≤ (wrap64 (x1 + 1)) then (if (wrap64 (x1 + 1)) < (x0.size : Int) then (if (bt x0 (wrap64 (x1 + 1))) = 47 then (if 0 ≤ x6 then (spec_comment.j2 k x0 x1 x6 ((bt x0 x6) == 10)) else (none)) else (spec_comment.j2 k x0 x1 x6 false)) else (none)) else (none)) else (if 0 ≤ (wrap64 (x1 + 1)) then (if (wrap64 (x1 + 1)) < (x0.size : Int) then (some ((x0.size : Int), ((bt x0 (wrap64 (x1 + 1))) == 47))) else (none)) else (none))
def spec_comment.j2 : Nat → ByteArray → Int → Int → Bool → Option (Int × Bool)
 | 0, _, _, _, _ => none
 | k + 1, x0, x1, x6, x40 => if x40 = true then (some (x6, true)) else (if 0 ≤ (wrap64 (x1 + 1)) then (if (wrap64 (x1 + 1)) < (x0.size : Int) then (if (bt x0 (wrap64 (x1 + 1))) = 42 then (if x6 > (wrap64 (x1 + 2)) then (if 0 ≤ (wrap64 (x6 - 1)) then (if (wrap64 (x6 - 1)) < (x0.size : Int) then (if (bt x0 (wrap64 (x6 - 1))) = 42 then (if 0 ≤ x6 then (if x6 < (x0.size : Int) then (if (bt x0 x6) = 47 then (some (wrap64 (x6 + 1), true)) else (spec_comment.l0 k x0 x1 (wrap64 (x6 + 1)))) else (none)) else (none)) else (spec_comment.l0 k x0 x1 (wrap64 (x6 + 1)))) else (none)) else (none)) else (spec_comment.l0 k x0 x1 (wrap64 (x6 + 1)))) else (spec_comment.l0 k x0 x1 (wrap64 (x6 + 1)))) else (none)) else (none))
end
def spec_comment.f (k : Nat) (a0 : ByteArray) (a1 : Int) : Option (Int × Bool) := if 0 ≤ a1 then (if a1 < (a0.size : Int) then (if (bt a0 a1) = 47 then (if (wrap64 (a1 + 1)) = (a0.size : Int) then (spec_comment.j0 k a0 a1 true) else (if 0 ≤ (wrap64 (a1 + 1)) then (if (wrap64 (a1 + 1)) < (a0.size : Int) then (if (bt a0 (wrap64 (a1 + 1))) = 47 then (spec_comment.j0 k a0 a1 false) else (spec_comment.j0 k a0 a1 ((bt a0 (wrap64 (a1 + 1))) != 42))) else (none)) else (none))) else (some (a1, true))) else (none)) else (none)
theorem spec_comment.mono_l : ∀ k, (∀ y0 y1 y2, LeO (spec_comment.j0 k y0 y1 y2) (spec_comment.j0 (k + 1) y0 y1 y2)) ∧ (∀ y0 y1 y2, LeO (spec_comment.l0 k y0 y1 y2) (spec_comment.l0 (k + 1) y0 y1 y2)) ∧ (∀ y0 y1 y2 y3, LeO (spec_comment.j2 k y0 y1 y2 y3) (spec_comment.j2 (k + 1) y0 y1 y2 y3))
 | 0 => ⟨fun _ _ _ r h => by simp [spec_comment.j0] at h, fun _ _ _ r h => by simp [spec_comment.l0] at h, fun _ _ _ _ r h => by simp [spec_comment.j2] at h⟩
 | k + 1 => by
  obtain ⟨ih0, ih1, ih2⟩ := spec_comment.mono_l k
  refine ⟨?_, ?_, ?_⟩
  ·
   intro y0 y1 y2
   unfold spec_comment.j0
   repeat' first
   | (with_reducible exact ih0 _ _ _)
   | (with_reducible exact ih1 _ _ _)
   | (with_reducible exact ih2 _ _ _ _)
   | (with_reducible exact LeO.refl _)
   | (with_reducible exact LeO.none _)
   | (with_reducible refine LeO.ite ?_ ?_)
   | (with_reducible refine LeO.bind ?_ (fun _ => ?_))
   | exact ih0 _ _ _
   | exact ih1 _ _ _
   | exact ih2 _ _ _ _
   | exact LeO.none _
   | refine LeO.ite ?_ ?_
   | refine LeO.bind ?_ (fun _ => ?_)
  ·
   intro y0 y1 y2
   unfold spec_comment.l0
   repeat' first
   | (with_reducible exact ih0 _ _ _)
   | (with_reducible exact ih1 _ _ _)
   | (with_reducible exact ih2 _ _ _ _)
   | (with_reducible exact LeO.refl _)
   | (with_reducible exact LeO.none _)
   | (with_reducible refine LeO.ite ?_ ?_)
   | (with_reducible refine LeO.bind ?_ (fun _ => ?_))
   | exact ih0 _ _ _
   | exact ih1 _ _ _
   | exact ih2 _ _ _ _
   | exact LeO.none _
   | refine LeO.ite ?_ ?_
   | refine LeO.bind ?_ (fun _ => ?_)
  ·
   intro y0 y1 y2 y3
   unfold spec_comment.j2
   repeat' first
   | (with_reducible exact ih0 _ _ _)
   | (with_reducible exact ih1 _ _ _)
   | (with_reducible exact ih2 _ _ _ _)
   | (with_reducible exact LeO.refl _)
   | (with_reducible exact LeO.none _)
   | (with_reducible refine LeO.ite ?_ ?_)
   | (with_reducible refine LeO.bind ?_ (fun _ => ?_))
   | exact ih0 _ _ _
   | exact ih1 _ _ _
   | exact ih2 _ _ _ _
   | exact LeO.none _
   | refine LeO.ite ?_ ?_
   | refine LeO.bind ?_ (fun _ => ?_)
theorem spec_comment.mono : ∀ a0 a1 k, LeO (spec_comment.f k a0 a1) (spec_comment.f (k + 1) a0 a1) := by
 intro a0 a1 k
 obtain ⟨ih0, ih1, ih2⟩ := spec_comment.mono_l k
 unfold spec_comment.f
 repeat' first
   | (with_reducible exact ih0 _ _ _)
   | (with_reducible exact ih1 _ _ _)
   | (with_reducible exact ih2 _ _ _ _)
   | (with_reducible exact LeO.refl _)
   | (with_reducible exact LeO.none _)
   | (with_reducible refine LeO.ite ?_ ?_)
   | (with_reducible refine LeO.bind ?_ (fun _ => ?_))
   | exact ih0 _ _ _
   | exact ih1 _ _ _
   | exact ih2 _ _ _ _
   | exact LeO.none _
   | refine LeO.ite ?_ ?_
   | refine LeO.bind ?_ (fun _ => ?_)
set_option maxHeartbeats 8000000 in
set_option maxRecDepth 100000 in
theorem spec_comment.calls (k : Nat) (a0 : ByteArray) (a1 : Int) (r1 : Int) (r2 : Bool) (w : World) (h : spec_comment.f k a0 a1 = some (r1, r2)) :
  Calls Try.prog 7 #[.string a0, .int .i64 a1] w fun e w' => e = .returned (.tuple #[.int .i64 r1, .bool r2]) ∧ Drawn0 w w' := by
 have H : (if 0 ≤ a1 then (if a1 < (a0.size : Int) then (if (bt a0 a1) = 47 then (if (wrap64 (a1 + 1)) = (a0.size : Int) then (spec_comment.j0 k a0 a1 true) else (if 0 ≤ (wrap64 (a1 + 1)) then (if (wrap64 (a1 + 1)) < (a0.size : Int) then (if (bt a0 (wrap64 (a1 + 1))) = 47 then (spec_comment.j0 k a0 a1 false) else (spec_comment.j0 k a0 a1 ((bt a0 (wrap64 (a1 + 1))) != 42))) else (none)) else (none))) else (some (a1, true))) else (none)) else (none)) = some (r1, r2) := h
 clear h
 by_cases c3 : 0 ≤ a1
 ·
  rw [if_pos c3] at H
  have c3b0 : decide (0 ≤ a1) = true := decide_eq_true c3
  clear c3
  by_cases c4 : a1 < (a0.size : Int)
  ·
   rw [if_pos c4] at H
   have c4b0 : decide (a1 < (a0.size : Int)) = true := decide_eq_true c4
   clear c4
   by_cases c6 : (bt a0 a1) = 47
   ·
    rw [if_pos c6] at H
    have c6b0 : ((bt a0 a1) == 47) = true := beq_iff_eq.mpr c6
    have c6b1 : ((bt a0 a1) != 47) = false := bne_eq_false_iff_eq.mpr c6
    clear c6
    have HC7 := Aside0.mk H
    clear H
    have p5 : 0 ≤ (a1 : Int) := of_decide_eq_true (by first | (with_reducible assumption) | assumption)
    have q5 : a1 < (a0.size : Int) := of_decide_eq_true (by first | (with_reducible assumption) | assumption)
    have hx5 := bt_at a0 a1
    replace p5 := eq_true p5
    replace q5 := eq_true q5
    go_enter Try.func7, Try.ntmps7
    go_upto_region 3 with (fail)
    repeat (go_quiet (fail); go_upto_region 3 with (fail))
    go_cut [30] (fun v30 wc => ∃ (kq : Nat) (x30_6 : Bool), v30 = .bool x30_6 ∧ Aside0 (spec_comment.j0 kq a0 a1 x30_6 = some (r1, r2)) ∧ Aside0 (kq ≤ k) ∧ Drawn0 w wc)
    case first =>
     have H := HC7.out
     clear HC7
     by_cases c8 : (wrap64 (a1 + 1)) = (a0.size : Int)
     ·
      rw [if_pos c8] at H
      have c8b0 : ((wrap64 (a1 + 1)) == (a0.size : Int)) = true := beq_iff_eq.mpr c8
      have c8b1 : ((wrap64 (a1 + 1)) != (a0.size : Int)) = false := bne_eq_false_iff_eq.mpr c8
      clear c8
      (first | rw [c8b0] | (simp only [i64_w, i32_w]; rw [c8b0]) | skip)
      have H' := Aside0.mk H
      clear H
      go_wp2
      repeat (go_quiet (fail); try go_wp2)
      go_meet
      case rel => exact ⟨_, (true), (by first | rfl | (simp; done) | (simp [*]; done) | (simp; rw [Bool.eq_iff_iff]; simp; done)), H', ⟨by first | omega | exact Nat.le_refl _⟩, by repeat (first | exact Drawn0.refl _ | apply Drawn0.step)⟩
     ·
      rw [if_neg c8] at H
      have c8b0 : ((wrap64 (a1 + 1)) == (a0.size : Int)) = false := beq_eq_false_iff_ne.mpr c8
      have c8b1 : ((wrap64 (a1 + 1)) != (a0.size : Int)) = true := bne_iff_ne.mpr c8
      (first | rw [c8b0] | (simp only [i64_w, i32_w]; rw [c8b0]) | skip)
      obtain ⟨ji9, hji9⟩ : ∃ j_ : Int, (wrap64 (a1 + 1)) = j_ := ⟨_, rfl⟩
      replace H : (if 0 ≤ (ji9) then (if (ji9) < (a0.size : Int) then (if (bt a0 (ji9)) = 47 then (spec_comment.j0 k a0 a1 false) else (spec_comment.j0 k a0 a1 ((bt a0 (ji9)) != 42))) else (none)) else (none)) = some (r1, r2) := by first | (rw [hji9] at H; exact H) | (simp only [hji9] at H ⊢; exact H)
      (try rw [hji9] at c8b0)
      (try rw [hji9] at c8b1)
      have hji9w : (IntKind.i64.wrap (a1 + 1)) = ji9 := (i64_w _).trans hji9
      by_cases c10 : 0 ≤ (ji9)
      ·
       rw [if_pos c10] at H
       have c10b0 : decide (0 ≤ (ji9)) = true := decide_eq_true c10
       clear c10
       by_cases c11 : (ji9) < (a0.size : Int)
       ·
        rw [if_pos c11] at H
        have c11b0 : decide ((ji9) < (a0.size : Int)) = true := decide_eq_true c11
        clear c11
        by_cases c13 : (bt a0 (ji9)) = 47
        ·
         rw [if_pos c13] at H
         have c13b0 : ((bt a0 (ji9)) == 47) = true := beq_iff_eq.mpr c13
         have c13b1 : ((bt a0 (ji9)) != 47) = false := bne_eq_false_iff_eq.mpr c13
         clear c13
         have H' := Aside0.mk H
         clear H
         have p12 : 0 ≤ ((ji9) : Int) := of_decide_eq_true (by first | (with_reducible assumption) | assumption)
         have q12 : (ji9) < (a0.size : Int) := of_decide_eq_true (by first | (with_reducible assumption) | assumption)
         have hx12 := bt_at a0 (ji9)
         replace p12 := eq_true p12
         replace q12 := eq_true q12
         go_wp2
         repeat (go_quiet (fail); try go_wp2)
         go_meet
         case rel => exact ⟨_, (false), (by first | rfl | (simp; done) | (simp [*]; done) | (simp; rw [Bool.eq_iff_iff]; simp; done)), H', ⟨by first | omega | exact Nat.le_refl _⟩, by repeat (first | exact Drawn0.refl _ | apply Drawn0.step)⟩
        ·
         rw [if_neg c13] at H
         have c13b0 : ((bt a0 (ji9)) == 47) = false := beq_eq_false_iff_ne.mpr c13
         have c13b1 : ((bt a0 (ji9)) != 47) = true := bne_iff_ne.mpr c13
         have H' := Aside0.mk H
         clear H
         have p12 : 0 ≤ ((ji9) : Int) := of_decide_eq_true (by first | (with_reducible assumption) | assumption)
         have q12 : (ji9) < (a0.size : Int) := of_decide_eq_true (by first | (with_reducible assumption) | assumption)
         have hx12 := bt_at a0 (ji9)
         replace p12 := eq_true p12
         replace q12 := eq_true q12
         have p14 : 0 ≤ ((ji9) : Int) := of_decide_eq_true (by first | (with_reducible assumption) | assumption)
         have q14 : (ji9) < (a0.size : Int) := of_decide_eq_true (by first | (with_reducible assumption) | assumption)
         have hx14 := bt_at a0 (ji9)
         replace p14 := eq_true p14
         replace q14 := eq_true q14
         go_wp2
         repeat (go_quiet (fail); try go_wp2)
         go_meet
         case rel => exact ⟨_, (((bt a0 (ji9)) != 42)), (by first | rfl | (simp; done) | (simp only [← hji9] <;> (first | rfl | simp)) | (simp [*]; done)), H', ⟨by first | omega | exact Nat.le_refl _⟩, by repeat (first | exact Drawn0.refl _ | apply Drawn0.step)⟩
       ·
        rw [if_neg c11] at H
        exact absurd H (by simp)
      ·
       rw [if_neg c10] at H
       exact absurd H (by simp)
    case rest =>
     clear HC7
     (try clear c1); (try clear p1); (try clear q1); (try clear hx1); (try clear p2); (try clear c3); (try clear c3b0); (try clear c4); (try clear c4b0); (try clear p5); (try clear q5); (try clear hx5); (try clear c6); (try clear c6b0); (try clear c6b1); (try clear p6); (try clear c7); (try clear c8); (try clear c8b0); (try clear c8b1); (try clear c10); (try clear c10b0); (try clear c11); (try clear c11b0); (try clear p12); (try clear q12); (try clear hx12); (try clear c13); (try clear c13b0); (try clear c13b1); (try clear p14); (try clear q14); (try clear hx14); (try clear p12); (try clear p14); (try clear p5); (try clear q12); (try clear q14); (try clear q5)
     obtain ⟨kq, x30_6, rfl, HA, HJ6, ⟨mc6, rfl⟩⟩ := hcut
     cases kq with
     | zero => exact absurd HA.out (by simp [spec_comment.j0])
     | succ kj6 =>
      have H := HA.out
      clear HA
      simp only [spec_comment.j0] at H
      by_cases c15 : x30_6 = true
      ·
       subst c15
       have H1 : (some (a1, false)) = some (r1, r2) := by rw [if_pos rfl] at H; exact H
       clear H
       have H := H1
       clear H1
       simp only [Option.some.injEq, Prod.mk.injEq] at H
       obtain ⟨rfl, rfl⟩ := H
       go_wp2
       repeat (go_quiet (fail); try go_wp2)
       go_ret2
       exact ⟨by first | rfl | (simp; done) | (simp [*]; done) | (simp; rw [Bool.eq_iff_iff]; simp; done), by repeat (first | exact Drawn0.refl _ | apply Drawn0.step)⟩
      ·
       replace c15 := Bool.eq_false_iff.mpr c15
       subst c15
       have H1 : (spec_comment.l0 kj6 a0 a1 (wrap64 (a1 + 2))) = some (r1, r2) := by rw [if_neg (show ¬ (false = true) by decide)] at H; exact H
       clear H
       have H := H1
       clear H1
       have H' := Aside0.mk H
       clear H
       go_wp2
       repeat (go_quiet (fail); try go_wp2)
       try simp only [Act.put, List.setIfInBounds_toArray, List.set_cons_succ, List.set_cons_zero]
       go_loopg [6] kj6 (fun kq v6 w' => ∃ (x6_2 : Int), v6 = .int .i64 x6_2 ∧ Aside0 (spec_comment.l0 kq a0 a1 x6_2 = some (r1, r2)) ∧ Aside0 (kq ≤ kj6) ∧ Drawn0 w w')
       case atStart => exact ⟨(wrap64 (a1 + 2)), (by first | rfl | (simp; done) | (simp [*]; done) | (simp; rw [Bool.eq_iff_iff]; simp; done)), H', ⟨Nat.le_refl _⟩, by repeat (first | exact Drawn0.refl _ | apply Drawn0.step)⟩
       case round =>
        clear H'
        (try clear c1); (try clear p1); (try clear q1); (try clear hx1); (try clear p2); (try clear c3); (try clear c3b0); (try clear c4); (try clear c4b0); (try clear p5); (try clear q5); (try clear hx5); (try clear c6); (try clear c6b0); (try clear c6b1); (try clear p6); (try clear c7); (try clear c8); (try clear c8b0); (try clear c8b1); (try clear c10); (try clear c10b0); (try clear c11); (try clear c11b0); (try clear p12); (try clear q12); (try clear hx12); (try clear c13); (try clear c13b0); (try clear c13b1); (try clear p14); (try clear q14); (try clear hx14); (try clear c15); (try clear p1); (try clear p12); (try clear p14); (try clear p2); (try clear p5); (try clear p6); (try clear q1); (try clear q12); (try clear q14); (try clear q5)
        obtain ⟨x6_2, rfl, HA, HK2, ⟨m2, rfl⟩⟩ := hrel
        cases gk with
        | zero => exact absurd HA.out (by simp [spec_comment.l0])
        | succ k2 =>
         have H := HA.out
         clear HA
         simp only [spec_comment.l0] at H
         by_cases c16 : x6_2 < (a0.size : Int)
         ·
          rw [if_pos c16] at H
          have c16b0 : decide (x6_2 < (a0.size : Int)) = true := decide_eq_true c16
          clear c16
          have HC17 := Aside0.mk H
          clear H
          go_upto_region 8 with (fail)
          repeat (go_quiet (fail); go_upto_region 8 with (fail))
          go_cut [40] (fun v40 wc => ∃ (kq : Nat) (x40_16 : Bool), v40 = .bool x40_16 ∧ Aside0 (spec_comment.j2 kq a0 a1 x6_2 x40_16 = some (r1, r2)) ∧ Aside0 (kq ≤ k2) ∧ Drawn0 w wc)
          case first =>
           have H := HC17.out
           clear HC17
           obtain ⟨ji18, hji18⟩ : ∃ j_ : Int, (wrap64 (a1 + 1)) = j_ := ⟨_, rfl⟩
           replace H : (if 0 ≤ (ji18) then (if (ji18) < (a0.size : Int) then (if (bt a0 (ji18)) = 47 then (if 0 ≤ x6_2 then (spec_comment.j2 k2 a0 a1 x6_2 ((bt a0 x6_2) == 10)) else (none)) else (spec_comment.j2 k2 a0 a1 x6_2 false)) else (none)) else (none)) = some (r1, r2) := by first | (rw [hji18] at H; exact H) | (simp only [hji18] at H ⊢; exact H)
           have hji18w : (IntKind.i64.wrap (a1 + 1)) = ji18 := (i64_w _).trans hji18
           by_cases c19 : 0 ≤ (ji18)
           ·
            rw [if_pos c19] at H
            have c19b0 : decide (0 ≤ (ji18)) = true := decide_eq_true c19
            clear c19
            (first | rw [c19b0] | (simp only [i64_w, i32_w]; rw [c19b0]) | skip)
            by_cases c20 : (ji18) < (a0.size : Int)
            ·
             rw [if_pos c20] at H
             have c20b0 : decide ((ji18) < (a0.size : Int)) = true := decide_eq_true c20
             clear c20
             by_cases c22 : (bt a0 (ji18)) = 47
             ·
              rw [if_pos c22] at H
              have c22b0 : ((bt a0 (ji18)) == 47) = true := beq_iff_eq.mpr c22
              have c22b1 : ((bt a0 (ji18)) != 47) = false := bne_eq_false_iff_eq.mpr c22
              clear c22
              by_cases c23 : 0 ≤ x6_2
              ·
               rw [if_pos c23] at H
               have c23b0 : decide (0 ≤ x6_2) = true := decide_eq_true c23
               clear c23
               have H' := Aside0.mk H
               clear H
               have p21 : 0 ≤ ((ji18) : Int) := of_decide_eq_true (by first | (with_reducible assumption) | assumption)
               have q21 : (ji18) < (a0.size : Int) := of_decide_eq_true (by first | (with_reducible assumption) | assumption)
               have hx21 := bt_at a0 (ji18)
               replace p21 := eq_true p21
               replace q21 := eq_true q21
               have p24 : 0 ≤ (x6_2 : Int) := of_decide_eq_true (by first | (with_reducible assumption) | assumption)
               have q24 : x6_2 < (a0.size : Int) := of_decide_eq_true (by first | (with_reducible assumption) | assumption)
               have hx24 := bt_at a0 x6_2
               replace p24 := eq_true p24
               replace q24 := eq_true q24
               go_wp2
               repeat (go_quiet (fail); try go_wp2)
               go_meet
               case rel => exact ⟨_, (((bt a0 x6_2) == 10)), (by first | rfl | (simp; done) | (simp [*]; done) | (simp; rw [Bool.eq_iff_iff]; simp; done)), H', ⟨by have := HJ6.out; have := HK2.out; first | omega | exact Nat.le_refl _⟩, by repeat (first | exact Drawn0.refl _ | apply Drawn0.step)⟩
              ·
               rw [if_neg c23] at H
               exact absurd H (by simp)
             ·
              rw [if_neg c22] at H
              have c22b0 : ((bt a0 (ji18)) == 47) = false := beq_eq_false_iff_ne.mpr c22
              have c22b1 : ((bt a0 (ji18)) != 47) = true := bne_iff_ne.mpr c22
              have H' := Aside0.mk H
              clear H
              have p21 : 0 ≤ ((ji18) : Int) := of_decide_eq_true (by first | (with_reducible assumption) | assumption)
              have q21 : (ji18) < (a0.size : Int) := of_decide_eq_true (by first | (with_reducible assumption) | assumption)
              have hx21 := bt_at a0 (ji18)
              replace p21 := eq_true p21
              replace q21 := eq_true q21
              go_wp2
              repeat (go_quiet (fail); try go_wp2)
              go_meet
              case rel => exact ⟨_, (false), (by first | rfl | (simp; done) | (simp [*]; done) | (simp; rw [Bool.eq_iff_iff]; simp; done)), H', ⟨by have := HJ6.out; have := HK2.out; first | omega | exact Nat.le_refl _⟩, by repeat (first | exact Drawn0.refl _ | apply Drawn0.step)⟩
            ·
             rw [if_neg c20] at H
             exact absurd H (by simp)
           ·
            rw [if_neg c19] at H
            exact absurd H (by simp)
          case rest =>
           clear HC17
           (try clear c1); (try clear p1); (try clear q1); (try clear hx1); (try clear c2); (try clear p2); (try clear q2); (try clear hx2); (try clear c3); (try clear c3b0); (try clear c4); (try clear c4b0); (try clear p5); (try clear q5); (try clear hx5); (try clear c6); (try clear c6b0); (try clear c6b1); (try clear p6); (try clear c7); (try clear c8); (try clear c8b0); (try clear c8b1); (try clear c10); (try clear c10b0); (try clear c11); (try clear c11b0); (try clear p12); (try clear q12); (try clear hx12); (try clear c13); (try clear c13b0); (try clear c13b1); (try clear p14); (try clear q14); (try clear hx14); (try clear c15); (try clear c16); (try clear c16b0); (try clear c19); (try clear c19b0); (try clear c20); (try clear c20b0); (try clear p21); (try clear q21); (try clear hx21); (try clear c22); (try clear c22b0); (try clear c22b1); (try clear c23); (try clear c23b0); (try clear p24); (try clear q24); (try clear hx24); (try clear p1); (try clear p12); (try clear p14); (try clear p2); (try clear p21); (try clear p24); (try clear p5); (try clear p6); (try clear q1); (try clear q12); (try clear q14); (try clear q21); (try clear q24); (try clear q5)
           obtain ⟨kq, x40_16, rfl, HA, HJ16, ⟨mc16, rfl⟩⟩ := hcut
           cases kq with
           | zero => exact absurd HA.out (by simp [spec_comment.j2])
           | succ kj16 =>
            have H := HA.out
            clear HA
            simp only [spec_comment.j2] at H
            by_cases c25 : x40_16 = true
            ·
             subst c25
             have H1 : (some (x6_2, true)) = some (r1, r2) := by rw [if_pos rfl] at H; exact H
             clear H
             have H := H1
             clear H1
             simp only [Option.some.injEq, Prod.mk.injEq] at H
             obtain ⟨rfl, rfl⟩ := H
             go_wp2
             repeat (go_quiet (fail); try go_wp2)
             go_ret2
             exact ⟨by first | rfl | (simp; done) | (simp [*]; done) | (simp; rw [Bool.eq_iff_iff]; simp; done), by repeat (first | exact Drawn0.refl _ | apply Drawn0.step)⟩
            ·
             replace c25 := Bool.eq_false_iff.mpr c25
             subst c25
             have H1 : (if 0 ≤ (wrap64 (a1 + 1)) then (if (wrap64 (a1 + 1)) < (a0.size : Int) then (if (bt a0 (wrap64 (a1 + 1))) = 42 then (if x6_2 > (wrap64 (a1 + 2)) then (if 0 ≤ (wrap64 (x6_2 - 1)) then (if (wrap64 (x6_2 - 1)) < (a0.size : Int) then (if (bt a0 (wrap64 (x6_2 - 1))) = 42 then (if 0 ≤ x6_2 then (if x6_2 < (a0.size : Int) then (if (bt a0 x6_2) = 47 then (some (wrap64 (x6_2 + 1), true)) else (spec_comment.l0 kj16 a0 a1 (wrap64 (x6_2 + 1)))) else (none)) else (none)) else (spec_comment.l0 kj16 a0 a1 (wrap64 (x6_2 + 1)))) else (none)) else (none)) else (spec_comment.l0 kj16 a0 a1 (wrap64 (x6_2 + 1)))) else (spec_comment.l0 kj16 a0 a1 (wrap64 (x6_2 + 1)))) else (none)) else (none)) = some (r1, r2) := by rw [if_neg (show ¬ (false = true) by decide)] at H; exact H
             clear H
             have H := H1
             clear H1
             obtain ⟨ji26, hji26⟩ : ∃ j_ : Int, (wrap64 (a1 + 1)) = j_ := ⟨_, rfl⟩
             replace H : (if 0 ≤ (ji26) then (if (ji26) < (a0.size : Int) then (if (bt a0 (ji26)) = 42 then (if x6_2 > (wrap64 (a1 + 2)) then (if 0 ≤ (wrap64 (x6_2 - 1)) then (if (wrap64 (x6_2 - 1)) < (a0.size : Int) then (if (bt a0 (wrap64 (x6_2 - 1))) = 42 then (if 0 ≤ x6_2 then (if x6_2 < (a0.size : Int) then (if (bt a0 x6_2) = 47 then (some (wrap64 (x6_2 + 1), true)) else (spec_comment.l0 kj16 a0 a1 (wrap64 (x6_2 + 1)))) else (none)) else (none)) else (spec_comment.l0 kj16 a0 a1 (wrap64 (x6_2 + 1)))) else (none)) else (none)) else (spec_comment.l0 kj16 a0 a1 (wrap64 (x6_2 + 1)))) else (spec_comment.l0 kj16 a0 a1 (wrap64 (x6_2 + 1)))) else (none)) else (none)) = some (r1, r2) := by first | (rw [hji26] at H; exact H) | (simp only [hji26] at H ⊢; exact H)
             have hji26w : (IntKind.i64.wrap (a1 + 1)) = ji26 := (i64_w _).trans hji26
             by_cases c27 : 0 ≤ (ji26)
             ·
              rw [if_pos c27] at H
              have c27b0 : decide (0 ≤ (ji26)) = true := decide_eq_true c27
              clear c27
              by_cases c28 : (ji26) < (a0.size : Int)
              ·
               rw [if_pos c28] at H
               have c28b0 : decide ((ji26) < (a0.size : Int)) = true := decide_eq_true c28
               clear c28
               by_cases c30 : (bt a0 (ji26)) = 42
               ·
                rw [if_pos c30] at H
                have c30b0 : ((bt a0 (ji26)) == 42) = true := beq_iff_eq.mpr c30
                have c30b1 : ((bt a0 (ji26)) != 42) = false := bne_eq_false_iff_eq.mpr c30
                clear c30
                by_cases c31 : x6_2 > (wrap64 (a1 + 2))
                ·
                 rw [if_pos c31] at H
                 have c31b0 : decide ((wrap64 (a1 + 2)) < x6_2) = true := decide_eq_true c31
                 clear c31
                 obtain ⟨ji32, hji32⟩ : ∃ j_ : Int, (wrap64 (x6_2 - 1)) = j_ := ⟨_, rfl⟩
                 replace H : (if 0 ≤ (ji32) then (if (ji32) < (a0.size : Int) then (if (bt a0 (ji32)) = 42 then (if 0 ≤ x6_2 then (if x6_2 < (a0.size : Int) then (if (bt a0 x6_2) = 47 then (some (wrap64 (x6_2 + 1), true)) else (spec_comment.l0 kj16 a0 a1 (wrap64 (x6_2 + 1)))) else (none)) else (none)) else (spec_comment.l0 kj16 a0 a1 (wrap64 (x6_2 + 1)))) else (none)) else (none)) = some (r1, r2) := by first | (rw [hji32] at H; exact H) | (simp only [hji32] at H ⊢; exact H)
                 have hji32w : (IntKind.i64.wrap (x6_2 - 1)) = ji32 := (i64_w _).trans hji32
                 by_cases c33 : 0 ≤ (ji32)
                 ·
                  rw [if_pos c33] at H
                  have c33b0 : decide (0 ≤ (ji32)) = true := decide_eq_true c33
                  clear c33
                  by_cases c34 : (ji32) < (a0.size : Int)
                  ·
                   rw [if_pos c34] at H
                   have c34b0 : decide ((ji32) < (a0.size : Int)) = true := decide_eq_true c34
                   clear c34
                   by_cases c36 : (bt a0 (ji32)) = 42
                   ·
                    rw [if_pos c36] at H
                    have c36b0 : ((bt a0 (ji32)) == 42) = true := beq_iff_eq.mpr c36
                    have c36b1 : ((bt a0 (ji32)) != 42) = false := bne_eq_false_iff_eq.mpr c36
                    clear c36
                    by_cases c37 : 0 ≤ x6_2
                    ·
                     rw [if_pos c37] at H
                     have c37b0 : decide (0 ≤ x6_2) = true := decide_eq_true c37
                     clear c37
                     by_cases c38 : x6_2 < (a0.size : Int)
                     ·
                      rw [if_pos c38] at H
                      have c38b0 : decide (x6_2 < (a0.size : Int)) = true := decide_eq_true c38
                      clear c38
                      by_cases c40 : (bt a0 x6_2) = 47
                      ·
                       rw [if_pos c40] at H
                       have c40b0 : ((bt a0 x6_2) == 47) = true := beq_iff_eq.mpr c40
                       have c40b1 : ((bt a0 x6_2) != 47) = false := bne_eq_false_iff_eq.mpr c40
                       clear c40
                       simp only [Option.some.injEq, Prod.mk.injEq] at H
                       obtain ⟨rfl, rfl⟩ := H
                       have p29 : 0 ≤ ((ji26) : Int) := of_decide_eq_true (by first | (with_reducible assumption) | assumption)
                       have q29 : (ji26) < (a0.size : Int) := of_decide_eq_true (by first | (with_reducible assumption) | assumption)
                       have hx29 := bt_at a0 (ji26)
                       replace p29 := eq_true p29
                       replace q29 := eq_true q29
                       have p35 : 0 ≤ ((ji32) : Int) := of_decide_eq_true (by first | (with_reducible assumption) | assumption)
                       have q35 : (ji32) < (a0.size : Int) := of_decide_eq_true (by first | (with_reducible assumption) | assumption)
                       have hx35 := bt_at a0 (ji32)
                       replace p35 := eq_true p35
                       replace q35 := eq_true q35
                       have p39 : 0 ≤ (x6_2 : Int) := of_decide_eq_true (by first | (with_reducible assumption) | assumption)
                       have q39 : x6_2 < (a0.size : Int) := of_decide_eq_true (by first | (with_reducible assumption) | assumption)
                       have hx39 := bt_at a0 x6_2
                       replace p39 := eq_true p39
                       replace q39 := eq_true q39
                       go_wp2
                       repeat (go_quiet (fail); try go_wp2)
                       go_ret2
                       exact ⟨by first | rfl | (simp; done) | (simp only [← hji26, ← hji32] <;> (first | rfl | simp)) | (simp [*]; done), by repeat (first | exact Drawn0.refl _ | apply Drawn0.step)⟩
                      ·
                       rw [if_neg c40] at H
                       have c40b0 : ((bt a0 x6_2) == 47) = false := beq_eq_false_iff_ne.mpr c40
                       have c40b1 : ((bt a0 x6_2) != 47) = true := bne_iff_ne.mpr c40
                       have H' := Aside0.mk H
                       clear H
                       have p29 : 0 ≤ ((ji26) : Int) := of_decide_eq_true (by first | (with_reducible assumption) | assumption)
                       have q29 : (ji26) < (a0.size : Int) := of_decide_eq_true (by first | (with_reducible assumption) | assumption)
                       have hx29 := bt_at a0 (ji26)
                       replace p29 := eq_true p29
                       replace q29 := eq_true q29
                       have p35 : 0 ≤ ((ji32) : Int) := of_decide_eq_true (by first | (with_reducible assumption) | assumption)
                       have q35 : (ji32) < (a0.size : Int) := of_decide_eq_true (by first | (with_reducible assumption) | assumption)
                       have hx35 := bt_at a0 (ji32)
                       replace p35 := eq_true p35
                       replace q35 := eq_true q35
                       have p39 : 0 ≤ (x6_2 : Int) := of_decide_eq_true (by first | (with_reducible assumption) | assumption)
                       have q39 : x6_2 < (a0.size : Int) := of_decide_eq_true (by first | (with_reducible assumption) | assumption)
                       have hx39 := bt_at a0 x6_2
                       replace p39 := eq_true p39
                       replace q39 := eq_true q39
                       go_wp2
                       repeat (go_quiet (fail); try go_wp2)
                       go_roundg kj16
                       case measure => have := HJ6.out; have := HK2.out; have := HJ16.out; omega
                       case rel => exact ⟨(wrap64 (x6_2 + 1)), (by first | rfl | (simp; done) | (simp [*]; done) | (simp; rw [Bool.eq_iff_iff]; simp; done)), H', ⟨by have := HJ6.out; have := HK2.out; have := HJ16.out; omega⟩, by repeat (first | exact Drawn0.refl _ | apply Drawn0.step)⟩
                     ·
                      rw [if_neg c38] at H
                      exact absurd H (by simp)
                    ·
                     rw [if_neg c37] at H
                     exact absurd H (by simp)
                   ·
                    rw [if_neg c36] at H
                    have c36b0 : ((bt a0 (ji32)) == 42) = false := beq_eq_false_iff_ne.mpr c36
                    have c36b1 : ((bt a0 (ji32)) != 42) = true := bne_iff_ne.mpr c36
                    have H' := Aside0.mk H
                    clear H
                    have p29 : 0 ≤ ((ji26) : Int) := of_decide_eq_true (by first | (with_reducible assumption) | assumption)
                    have q29 : (ji26) < (a0.size : Int) := of_decide_eq_true (by first | (with_reducible assumption) | assumption)
                    have hx29 := bt_at a0 (ji26)
                    replace p29 := eq_true p29
                    replace q29 := eq_true q29
                    have p35 : 0 ≤ ((ji32) : Int) := of_decide_eq_true (by first | (with_reducible assumption) | assumption)
                    have q35 : (ji32) < (a0.size : Int) := of_decide_eq_true (by first | (with_reducible assumption) | assumption)
                    have hx35 := bt_at a0 (ji32)
                    replace p35 := eq_true p35
                    replace q35 := eq_true q35
                    go_wp2
                    repeat (go_quiet (fail); try go_wp2)
                    go_roundg kj16
                    case measure => have := HJ6.out; have := HK2.out; have := HJ16.out; omega
                    case rel => exact ⟨(wrap64 (x6_2 + 1)), (by first | rfl | (simp; done) | (simp [*]; done) | (simp; rw [Bool.eq_iff_iff]; simp; done)), H', ⟨by have := HJ6.out; have := HK2.out; have := HJ16.out; omega⟩, by repeat (first | exact Drawn0.refl _ | apply Drawn0.step)⟩
                  ·
                   rw [if_neg c34] at H
                   exact absurd H (by simp)
                 ·
                  rw [if_neg c33] at H
                  exact absurd H (by simp)
                ·
                 rw [if_neg c31] at H
                 have c31b0 : decide ((wrap64 (a1 + 2)) < x6_2) = false := decide_eq_false c31
                 clear c31
                 have H' := Aside0.mk H
                 clear H
                 have p29 : 0 ≤ ((ji26) : Int) := of_decide_eq_true (by first | (with_reducible assumption) | assumption)
                 have q29 : (ji26) < (a0.size : Int) := of_decide_eq_true (by first | (with_reducible assumption) | assumption)
                 have hx29 := bt_at a0 (ji26)
                 replace p29 := eq_true p29
                 replace q29 := eq_true q29
                 go_wp2
                 repeat (go_quiet (fail); try go_wp2)
                 go_roundg kj16
                 case measure => have := HJ6.out; have := HK2.out; have := HJ16.out; omega
                 case rel => exact ⟨(wrap64 (x6_2 + 1)), (by first | rfl | (simp; done) | (simp [*]; done) | (simp; rw [Bool.eq_iff_iff]; simp; done)), H', ⟨by have := HJ6.out; have := HK2.out; have := HJ16.out; omega⟩, by repeat (first | exact Drawn0.refl _ | apply Drawn0.step)⟩
               ·
                rw [if_neg c30] at H
                have c30b0 : ((bt a0 (ji26)) == 42) = false := beq_eq_false_iff_ne.mpr c30
                have c30b1 : ((bt a0 (ji26)) != 42) = true := bne_iff_ne.mpr c30
                have H' := Aside0.mk H
                clear H
                have p29 : 0 ≤ ((ji26) : Int) := of_decide_eq_true (by first | (with_reducible assumption) | assumption)
                have q29 : (ji26) < (a0.size : Int) := of_decide_eq_true (by first | (with_reducible assumption) | assumption)
                have hx29 := bt_at a0 (ji26)
                replace p29 := eq_true p29
                replace q29 := eq_true q29
                go_wp2
                repeat (go_quiet (fail); try go_wp2)
                go_roundg kj16
                case measure => have := HJ6.out; have := HK2.out; have := HJ16.out; omega
                case rel => exact ⟨(wrap64 (x6_2 + 1)), (by first | rfl | (simp; done) | (simp [*]; done) | (simp; rw [Bool.eq_iff_iff]; simp; done)), H', ⟨by have := HJ6.out; have := HK2.out; have := HJ16.out; omega⟩, by repeat (first | exact Drawn0.refl _ | apply Drawn0.step)⟩
              ·
               rw [if_neg c28] at H
               exact absurd H (by simp)
             ·
              rw [if_neg c27] at H
              exact absurd H (by simp)
         ·
          rw [if_neg c16] at H
          have c16b0 : decide (x6_2 < (a0.size : Int)) = false := decide_eq_false c16
          clear c16
          obtain ⟨ji41, hji41⟩ : ∃ j_ : Int, (wrap64 (a1 + 1)) = j_ := ⟨_, rfl⟩
          replace H : (if 0 ≤ (ji41) then (if (ji41) < (a0.size : Int) then (some ((a0.size : Int), ((bt a0 (ji41)) == 47))) else (none)) else (none)) = some (r1, r2) := by first | (rw [hji41] at H; exact H) | (simp only [hji41] at H ⊢; exact H)
          have hji41w : (IntKind.i64.wrap (a1 + 1)) = ji41 := (i64_w _).trans hji41
          by_cases c42 : 0 ≤ (ji41)
          ·
           rw [if_pos c42] at H
           have c42b0 : decide (0 ≤ (ji41)) = true := decide_eq_true c42
           clear c42
           by_cases c43 : (ji41) < (a0.size : Int)
           ·
            rw [if_pos c43] at H
            have c43b0 : decide ((ji41) < (a0.size : Int)) = true := decide_eq_true c43
            clear c43
            simp only [Option.some.injEq, Prod.mk.injEq] at H
            obtain ⟨rfl, rfl⟩ := H
            have p44 : 0 ≤ ((ji41) : Int) := of_decide_eq_true (by first | (with_reducible assumption) | assumption)
            have q44 : (ji41) < (a0.size : Int) := of_decide_eq_true (by first | (with_reducible assumption) | assumption)
            have hx44 := bt_at a0 (ji41)
            replace p44 := eq_true p44
            replace q44 := eq_true q44
            go_wp2
            repeat (go_quiet (fail); try go_wp2)
            go_ret2
            exact ⟨by first | rfl | (simp; done) | (simp only [← hji41] <;> (first | rfl | simp)) | (simp [*]; done), by repeat (first | exact Drawn0.refl _ | apply Drawn0.step)⟩
           ·
            rw [if_neg c43] at H
            exact absurd H (by simp)
          ·
           rw [if_neg c42] at H
           exact absurd H (by simp)
   ·
    rw [if_neg c6] at H
    have c6b0 : ((bt a0 a1) == 47) = false := beq_eq_false_iff_ne.mpr c6
    have c6b1 : ((bt a0 a1) != 47) = true := bne_iff_ne.mpr c6
    simp only [Option.some.injEq, Prod.mk.injEq] at H
    obtain ⟨rfl, rfl⟩ := H
    have p5 : 0 ≤ (a1 : Int) := of_decide_eq_true (by first | (with_reducible assumption) | assumption)
    have q5 : a1 < (a0.size : Int) := of_decide_eq_true (by first | (with_reducible assumption) | assumption)
    have hx5 := bt_at a0 a1
    replace p5 := eq_true p5
    replace q5 := eq_true q5
    go_enter Try.func7, Try.ntmps7
    go_wp2
    repeat (go_quiet (fail); try go_wp2)
    go_ret2
    exact ⟨by first | rfl | (simp; done) | (simp [*]; done) | (simp; rw [Bool.eq_iff_iff]; simp; done), by repeat (first | exact Drawn0.refl _ | apply Drawn0.step)⟩
  ·
   rw [if_neg c4] at H
   exact absurd H (by simp)
 ·
  rw [if_neg c3] at H
  exact absurd H (by simp)

/-- A state of type 30 at block g of W; what its slices lead to came in by w0. -/
def IsS30 (w0 W : World) (g : Nat) (f0 : ByteArray) (f1 : Int) : Prop := W.heap[g]? = some (.cells #[.string f0, .int .i64 f1] 30 (0, 0)) ∧ w0.heap.size ≤ g
theorem IsS30.grown {w0 W : World} {g : Nat} {f0 : ByteArray} {f1 : Int} {W1 : World} {row : Option Nat} (h : IsS30 w0 W g f0 f1) (hw : W.grownBy W1 row) (hne : some g ≠ row) : IsS30 w0 W1 g f0 f1 := by
 obtain ⟨hb, hg⟩ := h
 exact ⟨blk_grown hb hw hne, hg⟩
theorem IsS30.own_neN {w0 W : World} {g : Nat} {f0 : ByteArray} {f1 : Int} {α : Type} {d : Kd α} {e : Nat} {base : Nat} {ok : Nat → Prop} {v : Value} {xs : List α} (h : IsS30 w0 W g f0 f1) (ho : Kd.N d e W base ok v xs) (ht : e ≠ 30) : some g ≠ v.ownBlock := by
 obtain ⟨hb, hg⟩ := h
 exact Kd.N_ne ho hb ht
theorem IsS30.fresh {w0 W : World} {g : Nat} {f0 : ByteArray} {f1 : Int} (h : IsS30 w0 W g f0 f1) : ∀ k, W.heap.size ≤ k → k ≠ g := by
 obtain ⟨hb, hg⟩ := h
 exact Kd.freshB hb
theorem IsS30.kept {w0 W : World} {g : Nat} {f0 : ByteArray} {f1 : Int} {W1 : World} {S : Nat → Prop} (h : IsS30 w0 W g f0 f1) (hk : Kept W W1 S) (hne : ¬ S g) : IsS30 w0 W1 g f0 f1 := by
 obtain ⟨hb, hg⟩ := h
 exact ⟨blk_kept hb hk hne, hg⟩
theorem IsS30.below {w0 W : World} {g : Nat} {f0 : ByteArray} {f1 : Int} {W1 : World} (h : IsS30 w0 W g f0 f1) (hw : Below W.heap.size W W1) : IsS30 w0 W1 g f0 f1 := h.grown (grown_of_below hw none) (by simp)
theorem IsS30.alloc {w0 W : World} {g : Nat} {f0 : ByteArray} {f1 : Int} (h : IsS30 w0 W g f0 f1) (o : Obj) : IsS30 w0 (W.alloc o) g f0 f1 := h.below (below_alloc (Below.refl _ _) o)
theorem IsS30.drewN {w0 W : World} {g : Nat} {f0 : ByteArray} {f1 : Int} (h : IsS30 w0 W g f0 f1) (m : Nat) : IsS30 w0 (W.drewN m) g f0 f1 := h
theorem IsS30.drew {w0 W : World} {g : Nat} {f0 : ByteArray} {f1 : Int} (h : IsS30 w0 W g f0 f1) : IsS30 w0 W.drew g f0 f1 := h
theorem IsS30.at_ {w0 W : World} {g : Nat} {f0 : ByteArray} {f1 : Int} {w' : World} {m : Nat} (hq : W.drewN m = w') (h : IsS30 w0 W g f0 f1) : IsS30 w0 w' g f0 f1 := by subst hq; exact IsS30.drewN h m
theorem IsS30.apart {w0 W : World} {g : Nat} {f0 : ByteArray} {f1 : Int} {α : Type} {d : Kd α} {e : Nat} {base : Nat} {ok : Nat → Prop} {v : Value} {xs : List α} (h : IsS30 w0 W g f0 f1) (ho : d.R e W base ok v xs) (ht : ∀ q, q ∈ e :: d.E → q ≠ 30) : d.R e W base (fun k => ok k ∧ k ≠ g) v xs := by
 obtain ⟨hb, hg⟩ := h
 exact Kd.R_types ho hb ht
theorem IsS30.own_ne {w0 W : World} {g : Nat} {f0 : ByteArray} {f1 : Int} {α : Type} {d : Kd α} {e : Nat} {base : Nat} {ok : Nat → Prop} {v : Value} {xs : List α} (h : IsS30 w0 W g f0 f1) (ho : d.R e W base ok v xs) (ht : e ≠ 30) : some g ≠ v.ownBlock := by
 obtain ⟨hb, hg⟩ := h
 exact Kd.R_ne ho hb ht
theorem IsS30.apartQ {w0 W : World} {g : Nat} {f0 : ByteArray} {f1 : Int} {α : Type} {d : Kd α} {e : Nat} {base : Nat} {ok : Nat → Prop} {v : Value} {xs : List α} (h : IsS30 w0 W g f0 f1) (ho : d.Q e W base ok v xs) (ht : ∀ q, q ∈ e :: d.E → q ≠ 30) : d.Q e W base (fun k => ok k ∧ k ≠ g) v xs := by
 obtain ⟨hb, hg⟩ := h
 exact Kd.Q_types ho hb ht
theorem IsS30.own_neQ {w0 W : World} {g : Nat} {f0 : ByteArray} {f1 : Int} {α : Type} {d : Kd α} {e : Nat} {base : Nat} {ok : Nat → Prop} {v : Value} {xs : List α} (h : IsS30 w0 W g f0 f1) (ho : d.Q e W base ok v xs) (ht : e ≠ 30) : some g ≠ v.ownBlock := by
 obtain ⟨hb, hg⟩ := h
 exact Kd.Q_ne ho hb ht
theorem IsS30.apartS {w0 W : World} {g : Nat} {f0 : ByteArray} {f1 : Int} {α : Type} {d : Kd α} {e : Nat} {base : Nat} {ok : Nat → Prop} {v : Value} {xs : List α} (h : IsS30 w0 W g f0 f1) (ho : d.S e W base ok v xs) (ht : ∀ q, q ∈ e :: d.E → q ≠ 30) : d.S e W base (fun k => ok k ∧ k ≠ g) v xs := by
 obtain ⟨hb, hg⟩ := h
 exact Kd.S_types ho hb ht
theorem IsS30.own_neS {w0 W : World} {g : Nat} {f0 : ByteArray} {f1 : Int} {α : Type} {d : Kd α} {e : Nat} {base : Nat} {ok : Nat → Prop} {v : Value} {xs : List α} (h : IsS30 w0 W g f0 f1) (ho : d.S e W base ok v xs) (ht : e ≠ 30) : some g ≠ v.ownBlock := by
 obtain ⟨hb, hg⟩ := h
 exact Kd.S_ne ho hb ht
theorem IsS30.lt {w0 W : World} {g : Nat} {f0 : ByteArray} {f1 : Int} (h : IsS30 w0 W g f0 f1) : g < W.heap.size := by
 obtain ⟨hb, hg⟩ := h
 exact blk_lt hb
theorem IsS30.ge {w0 W : World} {g : Nat} {f0 : ByteArray} {f1 : Int} (h : IsS30 w0 W g f0 f1) : w0.heap.size ≤ g := by
 obtain ⟨hb, hg⟩ := h
 exact hg
theorem IsS30.ne_blk {w0 W : World} {g : Nat} {f0 : ByteArray} {f1 : Int} {a : Nat} {cs : Array Value} {t : TypeId} {fr : Nat × Nat} (h : IsS30 w0 W g f0 f1) (hb2 : W.heap[a]? = some (.cells cs t fr)) (ht : t ≠ 30) : g ≠ a := by
 obtain ⟨hb, hg⟩ := h
 rintro rfl
 rw [hb] at hb2
 injection hb2 with hb2
 injection hb2 with _ ht2
 exact ht ht2.symm
theorem IsS30.far {w0 W : World} {g : Nat} {f0 : ByteArray} {f1 : Int} {p : Addr} (h : IsS30 w0 W g f0 f1) (hne : g ≠ p.block) (u : Value) : IsS30 w0 (W.setCell p u) g f0 f1 := by
 obtain ⟨hb, hg⟩ := h
 exact ⟨blk_far hb hne u, hg⟩
theorem cellS30_0 {W : World} {g : Nat} {f0 : ByteArray} {f1 : Int} (h : W.heap[g]? = some (.cells #[.string f0, .int .i64 f1] 30 (0, 0))) : W.cell? ⟨g, 0, none⟩ = some (.string f0) := (blk_cell h 0).trans rfl
theorem IsS30.set_0 {w0 W : World} {g : Nat} {f0 : ByteArray} {f1 : Int} (h : IsS30 w0 W g f0 f1) (x : ByteArray) : IsS30 w0 (W.setCell ⟨g, 0, none⟩ (.string x)) g x f1 := by
 obtain ⟨hb, hg⟩ := h
 exact ⟨by simpa using blk_set hb 0 (.string x), hg⟩
theorem cellS30_1 {W : World} {g : Nat} {f0 : ByteArray} {f1 : Int} (h : W.heap[g]? = some (.cells #[.string f0, .int .i64 f1] 30 (0, 0))) : W.cell? ⟨g, 1, none⟩ = some (.int .i64 f1) := (blk_cell h 1).trans rfl
theorem IsS30.set_1 {w0 W : World} {g : Nat} {f0 : ByteArray} {f1 : Int} (h : IsS30 w0 W g f0 f1) (x : Int) : IsS30 w0 (W.setCell ⟨g, 1, none⟩ (.int .i64 x)) g f0 x := by
 obtain ⟨hb, hg⟩ := h
 exact ⟨by simpa using blk_set hb 1 (.int .i64 x), hg⟩
theorem IsS30.new (w0 W : World) (f0 : ByteArray) (f1 : Int) (hB : Below w0.heap.size w0 W) : IsS30 w0 (W.alloc (.cells #[.string f0, .int .i64 f1] 30)) W.heap.size f0 f1 := ⟨by simpa using heap_alloc_new W _, hB.size⟩

/-! ### spec_reader_here: function 19 -/
def spec_reader_here.f (s0_0 : ByteArray) (s0_1 : Int) : Option (Int × ByteArray × Int) := if s0_1 < (s0_0.size : Int) then (if 0 ≤ s0_1 then (some (bt s0_0 s0_1, s0_0, s0_1)) else (none)) else (some (0, s0_0, s0_1))
set_option maxHeartbeats 8000000 in
set_option maxRecDepth 100000 in
theorem spec_reader_here.calls (g : Nat) (s0_0 : ByteArray) (s0_1 : Int) (r1 : Int) (r2 : ByteArray) (r3 : Int) (w0 w : World) (hI : IsS30 w0 w g s0_0 s0_1) (hB : Below w0.heap.size w0 w) (h : spec_reader_here.f s0_0 s0_1 = some (r1, r2, r3)) :
  Calls Try.prog 19 #[.pointer (some ⟨g, 0, none⟩)] w fun e w' => e = .returned (.int .u8 r1) ∧ IsS30 w0 w' g r2 r3 ∧ Below w0.heap.size w0 w' ∧ KeepBut w w' g none := by
 have HI0 := Aside0.mk hI
 have HK := Aside0.mk (KeepBut.refl w g none)
 have HL := Aside0.mk hB.size
 clear hI
 have HW0 := Aside0.mk hB.size
 have HB := Aside0.mk hB
 clear hB
 have H : (if s0_1 < (s0_0.size : Int) then (if 0 ≤ s0_1 then (some (bt s0_0 s0_1, s0_0, s0_1)) else (none)) else (some (0, s0_0, s0_1))) = some (r1, r2, r3) := h
 clear h
 by_cases c2 : s0_1 < (s0_0.size : Int)
 ·
  rw [if_pos c2] at H
  have c2b0 : decide (s0_1 < (s0_0.size : Int)) = true := decide_eq_true c2
  clear c2
  by_cases c3 : 0 ≤ s0_1
  ·
   rw [if_pos c3] at H
   have c3b0 : decide (0 ≤ s0_1) = true := decide_eq_true c3
   clear c3
   simp only [Option.some.injEq, Prod.mk.injEq] at H
   obtain ⟨rfl, rfl, rfl⟩ := H
   obtain ⟨HGz5, hgz5⟩ := HI0.out
   have hcz5_0 := cellS30_0 HGz5
   have hcz5_1 := cellS30_1 HGz5
   have hfz5_0 := blk_frozen HGz5 0
   have hfz5_1 := blk_frozen HGz5 1
   clear HGz5 hgz5
   have p4 : 0 ≤ (s0_1 : Int) := of_decide_eq_true (by first | (with_reducible assumption) | assumption)
   have q4 : s0_1 < (s0_0.size : Int) := of_decide_eq_true (by first | (with_reducible assumption) | assumption)
   have hx4 := bt_at s0_0 s0_1
   replace p4 := eq_true p4
   replace q4 := eq_true q4
   go_enter Try.func19, Try.ntmps19
   go_wp2
   repeat (go_quiet (fail); try go_wp2)
   go_ret
   exact ⟨by first | rfl | (simp [errW_none, errW_some] <;> rfl) | (simp [*, errW_none, errW_some] <;> rfl), by repeat (first | (with_reducible first | exact HI0.out | apply IsS30.alloc | apply IsS30.drewN | apply IsS30.drew | apply IsS30.set_0 | apply IsS30.set_1) | exact HI0.out), by repeat (first | (with_reducible first | exact HB.out | apply below_alloc | apply pw_below_drewN | apply below_drew1 | refine below_set ?_ (IsS30.ge HI0.out)) | exact HB.out), by repeat (first | (with_reducible first | exact HK.out | apply KeepBut.set_ | apply keep_drewN | apply keep_drew | apply keep_alloc) | exact HK.out)⟩
  ·
   rw [if_neg c3] at H
   exact absurd H (by simp)
 ·
  rw [if_neg c2] at H
  have c2b0 : decide (s0_1 < (s0_0.size : Int)) = false := decide_eq_false c2
  clear c2
  simp only [Option.some.injEq, Prod.mk.injEq] at H
  obtain ⟨rfl, rfl, rfl⟩ := H
  obtain ⟨HGz6, hgz6⟩ := HI0.out
  have hcz6_0 := cellS30_0 HGz6
  have hcz6_1 := cellS30_1 HGz6
  have hfz6_0 := blk_frozen HGz6 0
  have hfz6_1 := blk_frozen HGz6 1
  clear HGz6 hgz6
  go_enter Try.func19, Try.ntmps19
  go_wp2
  repeat (go_quiet (fail); try go_wp2)
  go_ret
  exact ⟨by first | rfl | (simp [errW_none, errW_some] <;> rfl) | (simp [*, errW_none, errW_some] <;> rfl), by repeat (first | (with_reducible first | exact HI0.out | apply IsS30.alloc | apply IsS30.drewN | apply IsS30.drew | apply IsS30.set_0 | apply IsS30.set_1) | exact HI0.out), by repeat (first | (with_reducible first | exact HB.out | apply below_alloc | apply pw_below_drewN | apply below_drew1 | refine below_set ?_ (IsS30.ge HI0.out)) | exact HB.out), by repeat (first | (with_reducible first | exact HK.out | apply KeepBut.set_ | apply keep_drewN | apply keep_drew | apply keep_alloc) | exact HK.out)⟩

end Go.Proofs.Ytdokakhhpcckaaa.MFnPrSpecAgain
