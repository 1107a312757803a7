/- What Go functions compute, as functions of numbers and lists, and the walks that show it. No condition. Written by a program (wip/tools/mprint.py) over the kit's print. -/
import Derived.Test.YtdokakhhpcckaaaMFnPrSpecAgain0
namespace Go.Proofs.Ytdokakhhpcckaaa.MFnPrSpecAgain
open Go.RowKit Go.Proofs.YtdokakhhpcckaaaW.PrintWords Go.Proofs.YtdokakhhpcckaaaW.PrintLast Go.Proofs.YtdokakhhpcckaaaW.PrintMore
attribute [local go_sem] max2_int min2_int max_two min_two max_three min_three max_four min_four   -- for this text's walks alone
set_option linter.unusedVariables false
set_option linter.unusedSimpArgs false

/-! ### gjson_validcolon: function 35 -/
mutual
def gjson_validcolon.l0 : Nat → List Int → Int → Option (Int × Bool)
 | 0, _, _ => none
 | k + 1, x0, x1 => if x1 < (x0.length : Int) then (if 0 ≤ x1 then (if (rd x0 x1) = 32 then (gjson_validcolon.j1 k x0 x1 (rd x0 x1) ((rd x0 x1) == 32)) else (if (rd x0 x1) = 9 then (gjson_validcolon.j1 k x0 x1 (rd x0 x1) ((rd x0 x1) == 9)) else (if (rd x0 x1) = 10 then (gjson_validcolon.j1 k x0 x1 (rd x0 x1) ((rd x0 x1) == 10)) else (gjson_validcolon.j1 k x0 x1 (rd x0 x1) ((rd x0 x1) == 13))))) else (none)) else (some (x1, false))
def gjson_validcolon.j1 : Nat → List Int → Int → Int → Bool → Option (Int × Bool)
 | 0, _, _, _, _ => none
 | k + 1, x0, x1, x15, x17 => if x17 = true then (gjson_validcolon.l0 k x0 (wrap64 (x1 + 1))) else (if x15 = 58 then (some (wrap64 (x1 + 1), true)) else (some (x1, false)))
end
def gjson_validcolon.f (k : Nat) (l0 : List Int) (a1 : Int) : Option (Int × Bool) := gjson_validcolon.l0 k l0 a1
theorem gjson_validcolon.mono_l : ∀ k, (∀ y0 y1, LeO (gjson_validcolon.l0 k y0 y1) (gjson_validcolon.l0 (k + 1) y0 y1)) ∧ (∀ y0 y1 y2 y3, LeO (gjson_validcolon.j1 k y0 y1 y2 y3) (gjson_validcolon.j1 (k + 1) y0 y1 y2 y3))
 | 0 => ⟨fun _ _ r h => by simp [gjson_validcolon.l0] at h, fun _ _ _ _ r h => by simp [gjson_validcolon.j1] at h⟩
 | k + 1 => by
  obtain ⟨ih0, ih1⟩ := gjson_validcolon.mono_l k
  refine ⟨?_, ?_⟩
  ·
   intro y0 y1
   unfold gjson_validcolon.l0
   repeat' first
   | (with_reducible exact ih0 _ _)
   | (with_reducible exact ih1 _ _ _ _)
   | (with_reducible exact LeO.refl _)
   | (with_reducible exact LeO.none _)
   | (with_reducible refine LeO.ite ?_ ?_)
   | (with_reducible refine LeO.bind ?_ (fun _ => ?_))
   | exact ih0 _ _
   | exact ih1 _ _ _ _
   | exact LeO.none _
   | refine LeO.ite ?_ ?_
   | refine LeO.bind ?_ (fun _ => ?_)
  ·
   intro y0 y1 y2 y3
   unfold gjson_validcolon.j1
   repeat' first
   | (with_reducible exact ih0 _ _)
   | (with_reducible exact ih1 _ _ _ _)
   | (with_reducible exact LeO.refl _)
   | (with_reducible exact LeO.none _)
   | (with_reducible refine LeO.ite ?_ ?_)
   | (with_reducible refine LeO.bind ?_ (fun _ => ?_))
   | exact ih0 _ _
   | exact ih1 _ _ _ _
   | exact LeO.none _
   | refine LeO.ite ?_ ?_
   | refine LeO.bind ?_ (fun _ => ?_)
theorem gjson_validcolon.mono : ∀ a0 a1 k, LeO (gjson_validcolon.f k a0 a1) (gjson_validcolon.f (k + 1) a0 a1) := by
 intro a0 a1 k
 obtain ⟨ih0, ih1⟩ := gjson_validcolon.mono_l k
 unfold gjson_validcolon.f
 repeat' first
   | (with_reducible exact ih0 _ _)
   | (with_reducible exact ih1 _ _ _ _)
   | (with_reducible exact LeO.refl _)
   | (with_reducible exact LeO.none _)
   | (with_reducible refine LeO.ite ?_ ?_)
   | (with_reducible refine LeO.bind ?_ (fun _ => ?_))
   | exact ih0 _ _
   | exact ih1 _ _ _ _
   | exact LeO.none _
   | refine LeO.ite ?_ ?_
   | refine LeO.bind ?_ (fun _ => ?_)
set_option maxHeartbeats 8000000 in
set_option maxRecDepth 100000 in
theorem gjson_validcolon.calls (k : Nat) (A0 : Option Addr) (c0 : Nat) (l0 : List Int) (a1 : Int) (r1 : Int) (r2 : Bool) (w : World) (hr0 : Kd.C (Kd.int .u8) w A0 l0.length l0) (hc0 : l0.length ≤ c0) (h : gjson_validcolon.f k l0 a1 = some (r1, r2)) :
  Calls Try.prog 35 #[.slice A0 l0.length c0, .int .i64 a1] w fun e w' => e = .returned (.tuple #[.int .i64 r1, .bool r2]) ∧ Drawn0 w w' := by
 have HR0 := Aside0.mk hr0
 have HC0 := Aside0.mk hc0
 clear hr0 hc0
 have H : (gjson_validcolon.l0 k l0 a1) = some (r1, r2) := h
 clear h
 have H' := Aside0.mk H
 clear H
 go_enter Try.func35, Try.ntmps35
 go_wp2
 try simp only [Act.put, List.setIfInBounds_toArray, List.set_cons_succ, List.set_cons_zero]
 go_loopg [1] k (fun kq v1 w' => ∃ (x1_1 : Int), v1 = .int .i64 x1_1 ∧ Aside0 (gjson_validcolon.l0 kq l0 x1_1 = some (r1, r2)) ∧ Aside0 (kq ≤ k) ∧ Drawn0 w w')
 case atStart => exact ⟨(a1), (by first | rfl | (simp; done) | (simp [*]; done) | (simp; rw [Bool.eq_iff_iff]; simp; done)), H', ⟨Nat.le_refl _⟩, by repeat (first | exact Drawn0.refl _ | apply Drawn0.step)⟩
 case round =>
  clear H'
  (try clear p2)
  obtain ⟨x1_1, rfl, HA, HK1, ⟨m1, rfl⟩⟩ := hrel
  cases gk with
  | zero => exact absurd HA.out (by simp [gjson_validcolon.l0])
  | succ k1 =>
   have H := HA.out
   clear HA
   simp only [gjson_validcolon.l0] at H
   by_cases c3 : x1_1 < (l0.length : Int)
   ·
    rw [if_pos c3] at H
    have c3b0 : decide (x1_1 < (l0.length : Int)) = true := decide_eq_true c3
    clear c3
    by_cases c4 : 0 ≤ x1_1
    ·
     rw [if_pos c4] at H
     have c4b0 : decide (0 ≤ x1_1) = true := decide_eq_true c4
     clear c4
     have HC5 := Aside0.mk H
     clear H
     have p370 : 0 ≤ (x1_1 : Int) := of_decide_eq_true (by first | (with_reducible assumption) | assumption)
     have q370 : x1_1 < (l0.length : Int) := of_decide_eq_true (by first | (with_reducible assumption) | assumption)
     obtain ⟨ad370, e370, hx370_0⟩ := Kd.at_int HR0.out x1_1 p370 q370
     cases e370
     replace p370 := eq_true p370
     replace q370 := eq_true q370
     go_upto_if 17 with (fail)
     go_cut [17] (fun v17 wc => ∃ (kq : Nat) (x17_4 : Bool), v17 = .bool x17_4 ∧ Aside0 (gjson_validcolon.j1 kq l0 x1_1 (rd l0 x1_1) x17_4 = some (r1, r2)) ∧ Aside0 (kq ≤ k1) ∧ Drawn0 w wc)
     case first =>
      have H := HC5.out
      clear HC5
      by_cases c6 : (rd l0 x1_1) = 32
      ·
       rw [if_pos c6] at H
       have c6b0 : ((rd l0 x1_1) == 32) = true := beq_iff_eq.mpr c6
       have c6b1 : ((rd l0 x1_1) != 32) = false := bne_eq_false_iff_eq.mpr c6
       clear c6
       (first | rw [c6b0] | (simp only [i64_w, i32_w]; rw [c6b0]) | skip)
       have H' := Aside0.mk H
       clear H
       go_wp2
       go_meet
       case rel => exact ⟨_, (((rd l0 x1_1) == 32)), (by first | rfl | (simp; done) | (simp [*]; done) | (simp; rw [Bool.eq_iff_iff]; simp; done)), H', ⟨by have := HK1.out; first | omega | exact Nat.le_refl _⟩, by repeat (first | exact Drawn0.refl _ | apply Drawn0.step)⟩
      ·
       rw [if_neg c6] at H
       have c6b0 : ((rd l0 x1_1) == 32) = false := beq_eq_false_iff_ne.mpr c6
       have c6b1 : ((rd l0 x1_1) != 32) = true := bne_iff_ne.mpr c6
       (first | rw [c6b0] | (simp only [i64_w, i32_w]; rw [c6b0]) | skip)
       by_cases c7 : (rd l0 x1_1) = 9
       ·
        rw [if_pos c7] at H
        have c7b0 : ((rd l0 x1_1) == 9) = true := beq_iff_eq.mpr c7
        have c7b1 : ((rd l0 x1_1) != 9) = false := bne_eq_false_iff_eq.mpr c7
        clear c7
        have H' := Aside0.mk H
        clear H
        go_wp2
        go_meet
        case rel => exact ⟨_, (((rd l0 x1_1) == 9)), (by first | rfl | (simp; done) | (simp [*]; done) | (simp; rw [Bool.eq_iff_iff]; simp; done)), H', ⟨by have := HK1.out; first | omega | exact Nat.le_refl _⟩, by repeat (first | exact Drawn0.refl _ | apply Drawn0.step)⟩
       ·
        rw [if_neg c7] at H
        have c7b0 : ((rd l0 x1_1) == 9) = false := beq_eq_false_iff_ne.mpr c7
        have c7b1 : ((rd l0 x1_1) != 9) = true := bne_iff_ne.mpr c7
        by_cases c8 : (rd l0 x1_1) = 10
        ·
         rw [if_pos c8] at H
         have c8b0 : ((rd l0 x1_1) == 10) = true := beq_iff_eq.mpr c8
         have c8b1 : ((rd l0 x1_1) != 10) = false := bne_eq_false_iff_eq.mpr c8
         clear c8
         have H' := Aside0.mk H
         clear H
         go_wp2
         go_meet
         case rel => exact ⟨_, (((rd l0 x1_1) == 10)), (by first | rfl | (simp; done) | (simp [*]; done) | (simp; rw [Bool.eq_iff_iff]; simp; done)), H', ⟨by have := HK1.out; first | omega | exact Nat.le_refl _⟩, by repeat (first | exact Drawn0.refl _ | apply Drawn0.step)⟩
        ·
         rw [if_neg c8] at H
         have c8b0 : ((rd l0 x1_1) == 10) = false := beq_eq_false_iff_ne.mpr c8
         have c8b1 : ((rd l0 x1_1) != 10) = true := bne_iff_ne.mpr c8
         have H' := Aside0.mk H
         clear H
         go_wp2
         go_meet
         case rel => exact ⟨_, (((rd l0 x1_1) == 13)), (by first | rfl | (simp; done) | (simp [*]; done) | (simp; rw [Bool.eq_iff_iff]; simp; done)), H', ⟨by have := HK1.out; first | omega | exact Nat.le_refl _⟩, by repeat (first | exact Drawn0.refl _ | apply Drawn0.step)⟩
     case rest =>
      clear HC5
      (try clear p2); (try clear c3); (try clear c3b0); (try clear p3); (try clear q3); (try clear hx3); (try clear c4); (try clear c4b0); (try clear c6); (try clear c6b0); (try clear c6b1); (try clear c7); (try clear c7b0); (try clear c7b1); (try clear c8); (try clear c8b0); (try clear c8b1); (try clear hx370_0); (try clear p2); (try clear p370); (try clear q370)
      obtain ⟨kq, x17_4, rfl, HA, HJ4, ⟨mc4, rfl⟩⟩ := hcut
      cases kq with
      | zero => exact absurd HA.out (by simp [gjson_validcolon.j1])
      | succ kj4 =>
       have H := HA.out
       clear HA
       simp only [gjson_validcolon.j1] at H
       by_cases c9 : x17_4 = true
       ·
        subst c9
        have H1 : (gjson_validcolon.l0 kj4 l0 (wrap64 (x1_1 + 1))) = some (r1, r2) := by rw [if_pos rfl] at H; exact H
        clear H
        have H := H1
        clear H1
        have H' := Aside0.mk H
        clear H
        go_wp2
        go_roundg kj4
        case measure => have := HK1.out; have := HJ4.out; omega
        case rel => exact ⟨(wrap64 (x1_1 + 1)), (by first | rfl | (simp; done) | (simp [*]; done) | (simp; rw [Bool.eq_iff_iff]; simp; done)), H', ⟨by have := HK1.out; have := HJ4.out; omega⟩, by repeat (first | exact Drawn0.refl _ | apply Drawn0.step)⟩
       ·
        replace c9 := Bool.eq_false_iff.mpr c9
        subst c9
        have H1 : (if (rd l0 x1_1) = 58 then (some (wrap64 (x1_1 + 1), true)) else (some (x1_1, false))) = some (r1, r2) := by rw [if_neg (show ¬ (false = true) by decide)] at H; exact H
        clear H
        have H := H1
        clear H1
        by_cases c10 : (rd l0 x1_1) = 58
        ·
         rw [if_pos c10] at H
         have c10b0 : ((rd l0 x1_1) == 58) = true := beq_iff_eq.mpr c10
         have c10b1 : ((rd l0 x1_1) != 58) = false := bne_eq_false_iff_eq.mpr c10
         clear c10
         simp only [Option.some.injEq, Prod.mk.injEq] at H
         obtain ⟨rfl, rfl⟩ := H
         go_wp2
         go_ret2
         exact ⟨by first | rfl | (simp; done) | (simp [*]; done) | (simp; rw [Bool.eq_iff_iff]; simp; done), by repeat (first | exact Drawn0.refl _ | apply Drawn0.step)⟩
        ·
         rw [if_neg c10] at H
         have c10b0 : ((rd l0 x1_1) == 58) = false := beq_eq_false_iff_ne.mpr c10
         have c10b1 : ((rd l0 x1_1) != 58) = true := bne_iff_ne.mpr c10
         simp only [Option.some.injEq, Prod.mk.injEq] at H
         obtain ⟨rfl, rfl⟩ := H
         go_wp2
         go_ret2
         exact ⟨by first | rfl | (simp; done) | (simp [*]; done) | (simp; rw [Bool.eq_iff_iff]; simp; done), by repeat (first | exact Drawn0.refl _ | apply Drawn0.step)⟩
    ·
     rw [if_neg c4] at H
     exact absurd H (by simp)
   ·
    rw [if_neg c3] at H
    have c3b0 : decide (x1_1 < (l0.length : Int)) = false := decide_eq_false c3
    clear c3
    simp only [Option.some.injEq, Prod.mk.injEq] at H
    obtain ⟨rfl, rfl⟩ := H
    go_wp2
    go_ret2
    exact ⟨by first | rfl | (simp; done) | (simp [*]; done) | (simp; rw [Bool.eq_iff_iff]; simp; done), by repeat (first | exact Drawn0.refl _ | apply Drawn0.step)⟩

/-! ### gjson_validcomma: function 36 -/
mutual
def gjson_validcomma.l0 : Nat → List Int → Int → Int → Option (Int × Bool)
 | 0, _, _, _ => none
 | k + 1, x0, x1, x2 => if x1 < (x0.length : Int) then (if 0 ≤ x1 then (if (rd x0 x1) = 32 then (gjson_validcomma.j1 k x0 x1 x2 (rd x0 x1) ((rd x0 x1) == 32)) else (if (rd x0 x1) = 9 then (gjson_validcomma.j1 k x0 x1 x2 (rd x0 x1) ((rd x0 x1) == 9)) else (if (rd x0 x1) = 10 then (gjson_validcomma.j1 k x0 x1 x2 (rd x0 x1) ((rd x0 x1) == 10)) else (gjson_validcomma.j1 k x0 x1 x2 (rd x0 x1) ((rd x0 x1) == 13))))) else (none)) else (some (x1, false))
def gjson_validcomma.j1 : Nat → List Int → Int → Int → Int → Bool → Option (Int × Bool)
 | 0, _, _, _, _, _ => none
 | k + 1, x0, x1, x2, x17, x19 => if x19 = true then (gjson_validcomma.l0 k x0 (wrap64 (x1 + 1)) x2) else (if x17 = 44 then (some (x1, true)) else (if x17 = x2 then (some (x1, true)) else (some (x1, false))))
end
def gjson_validcomma.f (k : Nat) (l0 : List Int) (a1 : Int) (a2 : Int) : Option (Int × Bool) := gjson_validcomma.l0 k l0 a1 a2
theorem gjson_validcomma.mono_l : ∀ k, (∀ y0 y1 y2, LeO (gjson_validcomma.l0 k y0 y1 y2) (gjson_validcomma.l0 (k + 1) y0 y1 y2)) ∧ (∀ y0 y1 y2 y3 y4, LeO (gjson_validcomma.j1 k y0 y1 y2 y3 y4) (gjson_validcomma.j1 (k + 1) y0 y1 y2 y3 y4))
 | 0 => ⟨fun _ _ _ r h => by simp [gjson_validcomma.l0] at h, fun _ _ _ _ _ r h => by simp [gjson_validcomma.j1] at h⟩
 | k + 1 => by
  obtain ⟨ih0, ih1⟩ := gjson_validcomma.mono_l k
  refine ⟨?_, ?_⟩
  ·
   intro y0 y1 y2
   unfold gjson_validcomma.l0
   repeat' first
   | (with_reducible exact ih0 _ _ _)
   | (with_reducible exact ih1 _ _ _ _ _)
   | (with_reducible exact LeO.refl _)
   | (with_reducible exact LeO.none _)
   | (with_reducible refine LeO.ite ?_ ?_)
   | (with_reducible refine LeO.bind ?_ (fun _ => ?_))
   | exact ih0 _ _ _
   | exact ih1 _ _ _ _ _
   | exact LeO.none _
   | refine LeO.ite ?_ ?_
   | refine LeO.bind ?_ (fun _ => ?_)
  ·
   intro y0 y1 y2 y3 y4
   unfold gjson_validcomma.j1
   repeat' first
   | (with_reducible exact ih0 _ _ _)
   | (with_reducible exact ih1 _ _ _ _ _)
   | (with_reducible exact LeO.refl _)
   | (with_reducible exact LeO.none _)
   | (with_reducible refine LeO.ite ?_ ?_)
   | (with_reducible refine LeO.bind ?_ (fun _ => ?_))
   | exact ih0 _ _ _
   | exact ih1 _ _ _ _ _
   | exact LeO.none _
   | refine LeO.ite ?_ ?_
   | refine LeO.bind ?_ (fun _ => ?_)
theorem gjson_validcomma.mono : ∀ a0 a1 a2 k, LeO (gjson_validcomma.f k a0 a1 a2) (gjson_validcomma.f (k + 1) a0 a1 a2) := by
 intro a0 a1 a2 k
 obtain ⟨ih0, ih1⟩ := gjson_validcomma.mono_l k
 unfold gjson_validcomma.f
 repeat' first
   | (with_reducible exact ih0 _ _ _)
   | (with_reducible exact ih1 _ _ _ _ _)
   | (with_reducible exact LeO.refl _)
   | (with_reducible exact LeO.none _)
   | (with_reducible refine LeO.ite ?_ ?_)
   | (with_reducible refine LeO.bind ?_ (fun _ => ?_))
   | exact ih0 _ _ _
   | exact ih1 _ _ _ _ _
   | exact LeO.none _
   | refine LeO.ite ?_ ?_
   | refine LeO.bind ?_ (fun _ => ?_)
set_option maxHeartbeats 8000000 in
set_option maxRecDepth 100000 in
theorem gjson_validcomma.calls (k : Nat) (A0 : Option Addr) (c0 : Nat) (l0 : List Int) (a1 : Int) (a2 : Int) (r1 : Int) (r2 : Bool) (w : World) (hr0 : Kd.C (Kd.int .u8) w A0 l0.length l0) (hc0 : l0.length ≤ c0) (h : gjson_validcomma.f k l0 a1 a2 = some (r1, r2)) :
  Calls Try.prog 36 #[.slice A0 l0.length c0, .int .i64 a1, .int .u8 a2] w fun e w' => e = .returned (.tuple #[.int .i64 r1, .bool r2]) ∧ Drawn0 w w' := by
 have HR0 := Aside0.mk hr0
 have HC0 := Aside0.mk hc0
 clear hr0 hc0
 have H : (gjson_validcomma.l0 k l0 a1 a2) = some (r1, r2) := h
 clear h
 have H' := Aside0.mk H
 clear H
 go_enter Try.func36, Try.ntmps36
 go_wp2
 try simp only [Act.put, List.setIfInBounds_toArray, List.set_cons_succ, List.set_cons_zero]
 go_loopg [1] k (fun kq v1 w' => ∃ (x1_1 : Int), v1 = .int .i64 x1_1 ∧ Aside0 (gjson_validcomma.l0 kq l0 x1_1 a2 = some (r1, r2)) ∧ Aside0 (kq ≤ k) ∧ Drawn0 w w')
 case atStart => exact ⟨(a1), (by first | rfl | (simp; done) | (simp [*]; done) | (simp; rw [Bool.eq_iff_iff]; simp; done)), H', ⟨Nat.le_refl _⟩, by repeat (first | exact Drawn0.refl _ | apply Drawn0.step)⟩
 case round =>
  clear H'
  (try clear p2); (try clear c3)
  obtain ⟨x1_1, rfl, HA, HK1, ⟨m1, rfl⟩⟩ := hrel
  cases gk with
  | zero => exact absurd HA.out (by simp [gjson_validcomma.l0])
  | succ k1 =>
   have H := HA.out
   clear HA
   simp only [gjson_validcomma.l0] at H
   by_cases c4 : x1_1 < (l0.length : Int)
   ·
    rw [if_pos c4] at H
    have c4b0 : decide (x1_1 < (l0.length : Int)) = true := decide_eq_true c4
    clear c4
    by_cases c5 : 0 ≤ x1_1
    ·
     rw [if_pos c5] at H
     have c5b0 : decide (0 ≤ x1_1) = true := decide_eq_true c5
     clear c5
     have HC6 := Aside0.mk H
     clear H
     have p371 : 0 ≤ (x1_1 : Int) := of_decide_eq_true (by first | (with_reducible assumption) | assumption)
     have q371 : x1_1 < (l0.length : Int) := of_decide_eq_true (by first | (with_reducible assumption) | assumption)
     obtain ⟨ad371, e371, hx371_0⟩ := Kd.at_int HR0.out x1_1 p371 q371
     cases e371
     replace p371 := eq_true p371
     replace q371 := eq_true q371
     go_upto_if 19 with (fail)
     go_cut [19] (fun v19 wc => ∃ (kq : Nat) (x19_5 : Bool), v19 = .bool x19_5 ∧ Aside0 (gjson_validcomma.j1 kq l0 x1_1 a2 (rd l0 x1_1) x19_5 = some (r1, r2)) ∧ Aside0 (kq ≤ k1) ∧ Drawn0 w wc)
     case first =>
      have H := HC6.out
      clear HC6
      by_cases c7 : (rd l0 x1_1) = 32
      ·
       rw [if_pos c7] at H
       have c7b0 : ((rd l0 x1_1) == 32) = true := beq_iff_eq.mpr c7
       have c7b1 : ((rd l0 x1_1) != 32) = false := bne_eq_false_iff_eq.mpr c7
       clear c7
       (first | rw [c7b0] | (simp only [i64_w, i32_w]; rw [c7b0]) | skip)
       have H' := Aside0.mk H
       clear H
       go_wp2
       go_meet
       case rel => exact ⟨_, (((rd l0 x1_1) == 32)), (by first | rfl | (simp; done) | (simp [*]; done) | (simp; rw [Bool.eq_iff_iff]; simp; done)), H', ⟨by have := HK1.out; first | omega | exact Nat.le_refl _⟩, by repeat (first | exact Drawn0.refl _ | apply Drawn0.step)⟩
      ·
       rw [if_neg c7] at H
       have c7b0 : ((rd l0 x1_1) == 32) = false := beq_eq_false_iff_ne.mpr c7
       have c7b1 : ((rd l0 x1_1) != 32) = true := bne_iff_ne.mpr c7
       (first | rw [c7b0] | (simp only [i64_w, i32_w]; rw [c7b0]) | skip)
       by_cases c8 : (rd l0 x1_1) = 9
       ·
        rw [if_pos c8] at H
        have c8b0 : ((rd l0 x1_1) == 9) = true := beq_iff_eq.mpr c8
        have c8b1 : ((rd l0 x1_1) != 9) = false := bne_eq_false_iff_eq.mpr c8
        clear c8
        have H' := Aside0.mk H
        clear H
        go_wp2
        go_meet
        case rel => exact ⟨_, (((rd l0 x1_1) == 9)), (by first | rfl | (simp; done) | (simp [*]; done) | (simp; rw [Bool.eq_iff_iff]; simp; done)), H', ⟨by have := HK1.out; first | omega | exact Nat.le_refl _⟩, by repeat (first | exact Drawn0.refl _ | apply Drawn0.step)⟩
       ·
        rw [if_neg c8] at H
        have c8b0 : ((rd l0 x1_1) == 9) = false := beq_eq_false_iff_ne.mpr c8
        have c8b1 : ((rd l0 x1_1) != 9) = true := bne_iff_ne.mpr c8
        by_cases c9 : (rd l0 x1_1) = 10
        ·
         rw [if_pos c9] at H
         have c9b0 : ((rd l0 x1_1) == 10) = true := beq_iff_eq.mpr c9
         have c9b1 : ((rd l0 x1_1) != 10) = false := bne_eq_false_iff_eq.mpr c9
         clear c9
         have H' := Aside0.mk H
         clear H
         go_wp2
         go_meet
         case rel => exact ⟨_, (((rd l0 x1_1) == 10)), (by first | rfl | (simp; done) | (simp [*]; done) | (simp; rw [Bool.eq_iff_iff]; simp; done)), H', ⟨by have := HK1.out; first | omega | exact Nat.le_refl _⟩, by repeat (first | exact Drawn0.refl _ | apply Drawn0.step)⟩
        ·
         rw [if_neg c9] at H
         have c9b0 : ((rd l0 x1_1) == 10) = false := beq_eq_false_iff_ne.mpr c9
         have c9b1 : ((rd l0 x1_1) != 10) = true := bne_iff_ne.mpr c9
         have H' := Aside0.mk H
         clear H
         go_wp2
         go_meet
         case rel => exact ⟨_, (((rd l0 x1_1) == 13)), (by first | rfl | (simp; done) | (simp [*]; done) | (simp; rw [Bool.eq_iff_iff]; simp; done)), H', ⟨by have := HK1.out; first | omega | exact Nat.le_refl _⟩, by repeat (first | exact Drawn0.refl _ | apply Drawn0.step)⟩
     case rest =>
      clear HC6
      (try clear p2); (try clear c3); (try clear p3); (try clear q3); (try clear hx3); (try clear c4); (try clear c4b0); (try clear c5); (try clear c5b0); (try clear c7); (try clear c7b0); (try clear c7b1); (try clear c8); (try clear c8b0); (try clear c8b1); (try clear c9); (try clear c9b0); (try clear c9b1); (try clear hx371_0); (try clear p2); (try clear p371); (try clear q371)
      obtain ⟨kq, x19_5, rfl, HA, HJ5, ⟨mc5, rfl⟩⟩ := hcut
      cases kq with
      | zero => exact absurd HA.out (by simp [gjson_validcomma.j1])
      | succ kj5 =>
       have H := HA.out
       clear HA
       simp only [gjson_validcomma.j1] at H
       by_cases c10 : x19_5 = true
       ·
        subst c10
        have H1 : (gjson_validcomma.l0 kj5 l0 (wrap64 (x1_1 + 1)) a2) = some (r1, r2) := by rw [if_pos rfl] at H; exact H
        clear H
        have H := H1
        clear H1
        have H' := Aside0.mk H
        clear H
        go_wp2
        go_roundg kj5
        case measure => have := HK1.out; have := HJ5.out; omega
        case rel => exact ⟨(wrap64 (x1_1 + 1)), (by first | rfl | (simp; done) | (simp [*]; done) | (simp; rw [Bool.eq_iff_iff]; simp; done)), H', ⟨by have := HK1.out; have := HJ5.out; omega⟩, by repeat (first | exact Drawn0.refl _ | apply Drawn0.step)⟩
       ·
        replace c10 := Bool.eq_false_iff.mpr c10
        subst c10
        have H1 : (if (rd l0 x1_1) = 44 then (some (x1_1, true)) else (if (rd l0 x1_1) = a2 then (some (x1_1, true)) else (some (x1_1, false)))) = some (r1, r2) := by rw [if_neg (show ¬ (false = true) by decide)] at H; exact H
        clear H
        have H := H1
        clear H1
        by_cases c11 : (rd l0 x1_1) = 44
        ·
         rw [if_pos c11] at H
         have c11b0 : ((rd l0 x1_1) == 44) = true := beq_iff_eq.mpr c11
         have c11b1 : ((rd l0 x1_1) != 44) = false := bne_eq_false_iff_eq.mpr c11
         clear c11
         simp only [Option.some.injEq, Prod.mk.injEq] at H
         obtain ⟨rfl, rfl⟩ := H
         go_wp2
         go_ret2
         exact ⟨by first | rfl | (simp; done) | (simp [*]; done) | (simp; rw [Bool.eq_iff_iff]; simp; done), by repeat (first | exact Drawn0.refl _ | apply Drawn0.step)⟩
        ·
         rw [if_neg c11] at H
         have c11b0 : ((rd l0 x1_1) == 44) = false := beq_eq_false_iff_ne.mpr c11
         have c11b1 : ((rd l0 x1_1) != 44) = true := bne_iff_ne.mpr c11
         by_cases c12 : (rd l0 x1_1) = a2
         ·
          rw [if_pos c12] at H
          have c12b0 : ((rd l0 x1_1) == a2) = true := beq_iff_eq.mpr c12
          have c12b1 : ((rd l0 x1_1) != a2) = false := bne_eq_false_iff_eq.mpr c12
          clear c12
          simp only [Option.some.injEq, Prod.mk.injEq] at H
          obtain ⟨rfl, rfl⟩ := H
          go_wp2
          go_ret2
          exact ⟨by first | rfl | (simp; done) | (simp [*]; done) | (simp; rw [Bool.eq_iff_iff]; simp; done), by repeat (first | exact Drawn0.refl _ | apply Drawn0.step)⟩
         ·
          rw [if_neg c12] at H
          have c12b0 : ((rd l0 x1_1) == a2) = false := beq_eq_false_iff_ne.mpr c12
          have c12b1 : ((rd l0 x1_1) != a2) = true := bne_iff_ne.mpr c12
          simp only [Option.some.injEq, Prod.mk.injEq] at H
          obtain ⟨rfl, rfl⟩ := H
          go_wp2
          go_ret2
          exact ⟨by first | rfl | (simp; done) | (simp [*]; done) | (simp; rw [Bool.eq_iff_iff]; simp; done), by repeat (first | exact Drawn0.refl _ | apply Drawn0.step)⟩
    ·
     rw [if_neg c5] at H
     exact absurd H (by simp)
   ·
    rw [if_neg c4] at H
    have c4b0 : decide (x1_1 < (l0.length : Int)) = false := decide_eq_false c4
    clear c4
    simp only [Option.some.injEq, Prod.mk.injEq] at H
    obtain ⟨rfl, rfl⟩ := H
    go_wp2
    go_ret2
    exact ⟨by first | rfl | (simp; done) | (simp [*]; done) | (simp; rw [Bool.eq_iff_iff]; simp; done), by repeat (first | exact Drawn0.refl _ | apply Drawn0.step)⟩

end Go.Proofs.Ytdokakhhpcckaaa.MFnPrSpecAgain
