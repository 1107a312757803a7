/- What Go functions compute, as functions of numbers and lists, and the walks that show it. No condition. Written by a program (wip/tools/mprint.py) over the kit's print. -/
import Derived.Test.YtdokakhhpcckaaaMFnPrSpecAgain0
namespace Go.Proofs.Ytdokakhhpcckaaa.MFnPrSpecAgain
open Go.RowKit Go.Proofs.YtdokakhhpcckaaaW.PrintWords Go.Proofs.YtdokakhhpcckaaaW.PrintLast Go.Proofs.YtdokakhhpcckaaaW.PrintMore
attribute [local go_sem] max2_int min2_int max_two min_two max_three min_three max_four min_four   -- for this text's walks alone
set_option linter.unusedVariables false
set_option linter.unusedSimpArgs false

/-! ### gjson_validnumber: function 31 -/
mutual
def gjson_validnumber.j0 : Nat → List Int → Int → Option (Int × Bool)
 | 0, _, _ => none
 | k + 1, x0, x1 => if x1 = (x0.length : Int) then (some (x1, false)) else (if 0 ≤ x1 then (if x1 < (x0.length : Int) then (if (rd x0 x1) = 48 then (gjson_validnumber.j2 k x0 (wrap64 (x1 + 1))) else (gjson_validnumber.l0 k x0 x1)) else (none)) else (none))
def gjson_validnumber.j2 : Nat → List Int → Int → Option (Int × Bool)
 | 0, _, _ => none
 | k + 1, x0, x1 => if x1 = (x0.length : Int) then (some (x1, true)) else (if 0 ≤ x1 then (if x1 < (x0.length : Int) then (if (rd x0 x1) = 46 then (if (wrap64 (x1 + 1)) = (x0.length : Int) then (some (wrap64 (x1 + 1), false)) else (if 0 ≤ (wrap64 (x1 + 1)) then (if (wrap64 (x1 + 1)) < (x0.length : Int) then (if (rd x0 (wrap64 (x1 + 1))) < 48 then (gjson_validnumber.j3 k x0 (wrap64 (x1 + 1)) true) else (gjson_validnumber.j3 k x0 (wrap64 (x1 + 1)) (decide ((rd x0 (wrap64 (x1 + 1))) > 57)))) else (none)) else (none))) else (gjson_validnumber.j5 k x0 x1)) else (none)) else (none))
def gjson_validnumber.j5 : Nat → List Int → Int → Option (Int × Bool)
 | 0, _, _ => none
 | k + 1, x0, x1 => if x1 = (x0.length : Int) then (some (x1, true)) else (if 0 ≤ x1 then (if x1 < (x0.length : Int) then (if (rd x0 x1) = 101 then (gjson_validnumber.j6 k x0 x1 true) else (gjson_validnumber.j6 k x0 x1 ((rd x0 x1) == 69))) else (none)) else (none))
def gjson_validnumber.j6 : Nat → List Int → Int → Bool → Option (Int × Bool)
 | 0, _, _, _ => none
 | k + 1, x0, x1, x129 => if x129 = true then (if (wrap64 (x1 + 1)) = (x0.length : Int) then (some (wrap64 (x1 + 1), false)) else (if 0 ≤ (wrap64 (x1 + 1)) then (if (wrap64 (x1 + 1)) < (x0.length : Int) then (if (rd x0 (wrap64 (x1 + 1))) = 43 then (gjson_validnumber.j7 k x0 (wrap64 (x1 + 1)) true) else (gjson_validnumber.j7 k x0 (wrap64 (x1 + 1)) ((rd x0 (wrap64 (x1 + 1))) == 45))) else (none)) else (none))) else (some (x1, true))
def gjson_validnumber.j7 : Nat → List Int → Int → Bool → Option (Int × Bool)
 | 0, _, _, _ => none
 | k + 1, x0, x1, x148 => if x148 = true then (gjson_validnumber.j8 k x0 (wrap64 (x1 + 1))) else (gjson_validnumber.j8 k x0 x1)
def gjson_validnumber.j8 : Nat → List Int → Int → Option (Int × Bool)
 | 0, _, _ => none
 | k + 1, x0, x1 => if x1 = (x0.length : Int) then (some (x1, false)) else (if 0 ≤ x1 then (if x1 < (x0.length : Int) then (if (rd x0 x1) < 48 then (gjson_validnumber.j9 k x0 x1 true) else (gjson_validnumber.j9 k x0 x1 (decide ((rd x0 x1) > 57)))) else (none)) else (none))
def gjson_validnumber.j9 : Nat → List Int → Int → Bool → Option (Int × Bool)
 | 0, _, _, _ => none
 | k + 1, x0, x1, x167 => if x167 = true then (some (x1, false)) else (gjson_validnumber.l2 k x0 (wrap64 (x1 + 1)))
def gjson_validnumber.l2 : Nat → List Int → Int → Option (Int × Bool)
 | 0, _, _ => none
 | k + 1, x0, x1 => if x1 < (x0.length : Int) then (if 0 ≤ x1 then (if (rd x0 x1) ≥ 48 then (if (rd x0 x1) ≤ 57 then (gjson_validnumber.l2 k x0 (wrap64 (x1 + 1))) else (some (x1, true))) else (some (x1, true))) else (none)) else (some (x1, true))
def gjson_validnumber.j3 : Nat → List Int → Int → Bool → Option (Int × Bool)
 | 0, _, _, _ => none
 | k + 1, x0, x1, x91 => if x91 = true then (some (x1, false)) else (gjson_validnumber.l1 k x0 (wrap64 (x1 + 1)))
def gjson_validnumber.l1 : Nat → List Int → Int → Option (Int × Bool)
 | 0, _, _ => none
 | k + 1, x0, x1 => if x1 < (x0.length : Int) then (if 0 ≤ x1 then (if (rd x0 x1) ≥ 48 then (if (rd x0 x1) ≤ 57 then (gjson_validnumber.l1 k x0 (wrap64 (x1 + 1))) else (gjson_validnumber.j5 k x0 x1)) else (gjson_validnumber.j5 k x0 x1)) else (none)) else (gjson_validnumber.j5 k x0 x1)
def gjson_validnumber.l0 : Nat → List Int → Int → Option (Int × Bool)
 | 0, _, _ => none
 | k + 1, x0, x1 => if x1 < (x0.length : Int) then (if 0 ≤ x1 then (if (rd x0 x1) ≥ 48 then (if (rd x0 x1) ≤ 57 then (gjson_validnumber.l0 k x0 (wrap64 (x1 + 1))) else (gjson_validnumber.j2 k x0 x1)) else (gjson_validnumber.j2 k x0 x1)) else (none)) else (gjson_validnumber.j2 k x0 x1)
end
def gjson_validnumber.f (k : Nat) (l0 : List Int) (a1 : Int) : Option (Int × Bool) := if 0 ≤ (wrap64 (a1 - 1)) then (if (wrap64 (a1 - 1)) < (l0.length : Int) then (if (rd l0 (wrap64 (a1 - 1))) = 45 then (if (wrap64 ((wrap64 (a1 - 1)) + 1)) = (l0.length : Int) then (some (wrap64 ((wrap64 (a1 - 1)) + 1), false)) else (if 0 ≤ (wrap64 ((wrap64 (a1 - 1)) + 1)) then (if (wrap64 ((wrap64 (a1 - 1)) + 1)) < (l0.length : Int) then (if (rd l0 (wrap64 ((wrap64 (a1 - 1)) + 1))) < 48 then (some (wrap64 ((wrap64 (a1 - 1)) + 1), false)) else (if (rd l0 (wrap64 ((wrap64 (a1 - 1)) + 1))) > 57 then (some (wrap64 ((wrap64 (a1 - 1)) + 1), false)) else (gjson_validnumber.j0 k l0 (wrap64 ((wrap64 (a1 - 1)) + 1))))) else (none)) else (none))) else (gjson_validnumber.j0 k l0 (wrap64 (a1 - 1)))) else (none)) else (none)
theorem gjson_validnumber.mono_l : ∀ k, (∀ y0 y1, LeO (gjson_validnumber.j0 k y0 y1) (gjson_validnumber.j0 (k + 1) y0 y1)) ∧ (∀ y0 y1, LeO (gjson_validnumber.j2 k y0 y1) (gjson_validnumber.j2 (k + 1) y0 y1)) ∧ (∀ y0 y1, LeO (gjson_validnumber.j5 k y0 y1) (gjson_validnumber.j5 (k + 1) y0 y1)) ∧ (∀ y0 y1 y2, LeO (gjson_validnumber.j6 k y0 y1 y2) (gjson_validnumber.j6 (k + 1) y0 y1 y2)) ∧ (∀ y0 y1 y2, LeO (gjson_validnumber.j7 k y0 y1 y2) (gjson_validnumber.j7 (k + 1) y0 y1 y2)) ∧ (∀ y0 y1, LeO (gjson_validnumber.j8 k y0 y1) (gjson_validnumber.j8 (k + 1) y0 y1)) ∧ (∀ y0 y1 y2, LeO (gjson_validnumber.j9 k y0 y1 y2) (gjson_validnumber.j9 (k + 1) y0 y1 y2)) ∧ (∀ y0 y1, LeO (gjson_validnumber.l2 k y0 y1) (gjson_validnumber.l2 (k + 1) y0 y1)) ∧ (∀ y0 y1 y2, LeO (gjson_validnumber.j3 k y0 y1 y2) (gjson_validnumber.j3 (k + 1) y0 y1 y2)) ∧ (∀ y0 y1, LeO (gjson_validnumber.l1 k y0 y1) (gjson_validnumber.l1 (k + 1) y0 y1)) ∧ (∀ y0 y1, LeO (gjson_validnumber.l0 k y0 y1) (gjson_validnumber.l0 (k + 1) y0 y1))
 | 0 => ⟨fun _ _ r h => by simp [gjson_validnumber.j0] at h, fun _ _ r h => by simp [gjson_validnumber.j2] at h, fun _ _ r h => by simp [gjson_validnumber.j5] at h, fun _ _ _ r h => by simp [gjson_validnumber.j6] at h, fun _ _ _ r h => by simp [gjson_validnumber.j7] at h, fun _ _ r h => by simp [gjson_validnumber.j8] at h, fun _ _ _ r h => by simp [gjson_validnumber.j9] at h, fun _ _ r h => by simp [gjson_validnumber.l2] at h, fun _ _ _ r h => by simp [gjson_validnumber.j3] at h, fun _ _ r h => by simp [gjson_validnumber.l1] at h, fun _ _ r h => by simp [gjson_validnumber.l0] at h⟩
 | k + 1 => by
  obtain ⟨ih0, ih1, ih2, ih3, ih4, ih5, ih6, ih7, ih8, ih9, ih10⟩ := gjson_validnumber.mono_l k
  refine ⟨?_, ?_, ?_, ?_, ?_, ?_, ?_, ?_, ?_, ?_, ?_⟩
  ·
   intro y0 y1
   unfold gjson_validnumber.j0
   repeat' first
   | (with_reducible exact ih0 _ _)
   | (with_reducible exact ih1 _ _)
   | (with_reducible exact ih2 _ _)
   | (with_reducible exact ih3 _ _ _)
   | (with_reducible exact ih4 _ _ _)
   | (with_reducible exact ih5 _ _)
   | (with_reducible exact ih6 _ _ _)
   | (with_reducible exact ih7 _ _)
   | (with_reducible exact ih8 _ _ _)
   | (with_reducible exact ih9 _ _)
   | (with_reducible exact ih10 _ _)
   | (with_reducible exact LeO.refl _)
   | (with_reducible exact LeO.none _)
   | (with_reducible refine LeO.ite ?_ ?_)
   | (with_reducible refine LeO.bind ?_ (fun _ => ?_))
   | exact ih0 _ _
   | exact ih1 _ _
   | exact ih2 _ _
   | exact ih3 _ _ _
   | exact ih4 _ _ _
   | exact ih5 _ _
   | exact ih6 _ _ _
   | exact ih7 _ _
   | exact ih8 _ _ _
   | exact ih9 _ _
   | exact ih10 _ _
   | exact LeO.none _
   | refine LeO.ite ?_ ?_
   | refine LeO.bind ?_ (fun _ => ?_)
  ·
   intro y0 y1
   unfold gjson_validnumber.j2
   repeat' first
   | (with_reducible exact ih0 _ _)
   | (with_reducible exact ih1 _ _)
   | (with_reducible exact ih2 _ _)
   | (with_reducible exact ih3 _ _ _)
   | (with_reducible exact ih4 _ _ _)
   | (with_reducible exact ih5 _ _)
   | (with_reducible exact ih6 _ _ _)
   | (with_reducible exact ih7 _ _)
   | (with_reducible exact ih8 _ _ _)
   | (with_reducible exact ih9 _ _)
   | (with_reducible exact ih10 _ _)
   | (with_reducible exact LeO.refl _)
   | (with_reducible exact LeO.none _)
   | (with_reducible refine LeO.ite ?_ ?_)
   | (with_reducible refine LeO.bind ?_ (fun _ => ?_))
   | exact ih0 _ _
   | exact ih1 _ _
   | exact ih2 _ _
   | exact ih3 _ _ _
   | exact ih4 _ _ _
   | exact ih5 _ _
   | exact ih6 _ _ _
   | exact ih7 _ _
   | exact ih8 _ _ _
   | exact ih9 _ _
   | exact ih10 _ _
   | exact LeO.none _
   | refine LeO.ite ?_ ?_
   | refine LeO.bind ?_ (fun _ => ?_)
  ·
   intro y0 y1
   unfold gjson_validnumber.j5
   repeat' first
   | (with_reducible exact ih0 _ _)
   | (with_reducible exact ih1 _ _)
   | (with_reducible exact ih2 _ _)
   | (with_reducible exact ih3 _ _ _)
   | (with_reducible exact ih4 _ _ _)
   | (with_reducible exact ih5 _ _)
   | (with_reducible exact ih6 _ _ _)
   | (with_reducible exact ih7 _ _)
   | (with_reducible exact ih8 _ _ _)
   | (with_reducible exact ih9 _ _)
   | (with_reducible exact ih10 _ _)
   | (with_reducible exact LeO.refl _)
   | (with_reducible exact LeO.none _)
   | (with_reducible refine LeO.ite ?_ ?_)
   | (with_reducible refine LeO.bind ?_ (fun _ => ?_))
   | exact ih0 _ _
   | exact ih1 _ _
   | exact ih2 _ _
   | exact ih3 _ _ _
   | exact ih4 _ _ _
   | exact ih5 _ _
   | exact ih6 _ _ _
   | exact ih7 _ _
   | exact ih8 _ _ _
   | exact ih9 _ _
   | exact ih10 _ _
   | exact LeO.none _
   | refine LeO.ite ?_ ?_
   | refine LeO.bind ?_ (fun _ => ?_)
  ·
   intro y0 y1 y2
   unfold gjson_validnumber.j6
   repeat' first
   | (with_reducible exact ih0 _ _)
   | (with_reducible exact ih1 _ _)
   | (with_reducible exact ih2 _ _)
   | (with_reducible exact ih3 _ _ _)
   | (with_reducible exact ih4 _ _ _)
   | (with_reducible exact ih5 _ _)
   | (with_reducible exact ih6 _ _ _)
   | (with_reducible exact ih7 _ _)
   | (with_reducible exact ih8 _ _ _)
   | (with_reducible exact ih9 _ _)
   | (with_reducible exact ih10 _ _)
   | (with_reducible exact LeO.refl _)
   | (with_reducible exact LeO.none _)
   | (with_reducible refine LeO.ite ?_ ?_)
   | (with_reducible refine LeO.bind ?_ (fun _ => ?_))
   | exact ih0 _ _
   | exact ih1 _ _
   | exact ih2 _ _
   | exact ih3 _ _ _
   | exact ih4 _ _ _
   | exact ih5 _ _
   | exact ih6 _ _ _
   | exact ih7 _ _
   | exact ih8 _ _ _
   | exact ih9 _ _
   | exact ih10 _ _
   | exact LeO.none _
   | refine LeO.ite ?_ ?_
   | refine LeO.bind ?_ (fun _ => ?_)
  ·
   intro y0 y1 y2
   unfold gjson_validnumber.j7
   repeat' first
   | (with_reducible exact ih0 _ _)
   | (with_reducible exact ih1 _ _)
   | (with_reducible exact ih2 _ _)
   | (with_reducible exact ih3 _ _ _)
   | (with_reducible exact ih4 _ _ _)
   | (with_reducible exact ih5 _ _)
   | (with_reducible exact ih6 _ _ _)
   | (with_reducible exact ih7 _ _)
   | (with_reducible exact ih8 _ _ _)
   | (with_reducible exact ih9 _ _)
   | (with_reducible exact ih10 _ _)
   | (with_reducible exact LeO.refl _)
   | (with_reducible exact LeO.none _)
   | (with_reducible refine LeO.ite ?_ ?_)
   | (with_reducible refine LeO.bind ?_ (fun _ => ?_))
   | exact ih0 _ _
   | exact ih1 _ _
   | exact ih2 _ _
   | exact ih3 _ _ _
   | exact ih4 _ _ _
   | exact ih5 _ _
   | exact ih6 _ _ _
   | exact ih7 _ _
   | exact ih8 _ _ _
   | exact ih9 _ _
   | exact ih10 _ _
   | exact LeO.none _
   | refine LeO.ite ?_ ?_
   | refine LeO.bind ?_ (fun _ => ?_)
  ·
   intro y0 y1
   unfold gjson_validnumber.j8
   repeat' first
   | (with_reducible exact ih0 _ _)
   | (with_reducible exact ih1 _ _)
   | (with_reducible exact ih2 _ _)
   | (with_reducible exact ih3 _ _ _)
   | (with_reducible exact ih4 _ _ _)
   | (with_reducible exact ih5 _ _)
   | (with_reducible exact ih6 _ _ _)
   | (with_reducible exact ih7 _ _)
   | (with_reducible exact ih8 _ _ _)
   | (with_reducible exact ih9 _ _)
   | (with_reducible exact ih10 _ _)
   | (with_reducible exact LeO.refl _)
   | (with_reducible exact LeO.none _)
   | (with_reducible refine LeO.ite ?_ ?_)
   | (with_reducible refine LeO.bind ?_ (fun _ => ?_))
   | exact ih0 _ _
   | exact ih1 _ _
   | exact ih2 _ _
   | exact ih3 _ _ _
   | exact ih4 _ _ _
   | exact ih5 _ _
   | exact ih6 _ _ _
   | exact ih7 _ _
   | exact ih8 _ _ _
   | exact ih9 _ _
   | exact ih10 _ _
   | exact LeO.none _
   | refine LeO.ite ?_ ?_
   | refine LeO.bind ?_ (fun _ => ?_)
  ·
   intro y0 y1 y2
   unfold gjson_validnumber.j9
   repeat' first
   | (with_reducible exact ih0 _ _)
   | (with_reducible exact ih1 _ _)
   | (with_reducible exact ih2 _ _)
   | (with_reducible exact ih3 _ _ _)
   | (with_reducible exact ih4 _ _ _)
   | (with_reducible exact ih5 _ _)
   | (with_reducible exact ih6 _ _ _)
   | (with_reducible exact ih7 _ _)
   | (with_reducible exact ih8 _ _ _)
   | (with_reducible exact ih9 _ _)
   | (with_reducible exact ih10 _ _)
   | (with_reducible exact LeO.refl _)
   | (with_reducible exact LeO.none _)
   | (with_reducible refine LeO.ite ?_ ?_)
   | (with_reducible refine LeO.bind ?_ (fun _ => ?_))
   | exact ih0 _ _
   | exact ih1 _ _
   | exact ih2 _ _
   | exact ih3 _ _ _
   | exact ih4 _ _ _
   | exact ih5 _ _
   | exact ih6 _ _ _
   | exact ih7 _ _
   | exact ih8 _ _ _
   | exact ih9 _ _
   | exact ih10 _ _
   | exact LeO.none _
   | refine LeO.ite ?_ ?_
   | refine LeO.bind ?_ (fun _ => ?_)
  ·
   intro y0 y1
   unfold gjson_validnumber.l2
   repeat' first
   | (with_reducible exact ih0 _ _)
   | (with_reducible exact ih1 _ _)
   | (with_reducible exact ih2 _ _)
   | (with_reducible exact ih3 _ _ _)
   | (with_reducible exact ih4 _ _ _)
   | (with_reducible exact ih5 _ _)
   | (with_reducible exact ih6 _ _ _)
   | (with_reducible exact ih7 _ _)
   | (with_reducible exact ih8 _ _ _)
   | (with_reducible exact ih9 _ _)
   | (with_reducible exact ih10 _ _)
   | (with_reducible exact LeO.refl _)
   | (with_reducible exact LeO.none _)
   | (with_reducible refine LeO.ite ?_ ?_)
   | (with_reducible refine LeO.bind ?_ (fun _ => ?_))
   | exact ih0 _ _
   | exact ih1 _ _
   | exact ih2 _ _
   | exact ih3 _ _ _
   | exact ih4 _ _ _
   | exact ih5 _ _
   | exact ih6 _ _ _
   | exact ih7 _ _
   | exact ih8 _ _ _
   | exact ih9 _ _
   | exact ih10 _ _
   | exact LeO.none _
   | refine LeO.ite ?_ ?_
   | refine LeO.bind ?_ (fun _ => ?_)
  ·
   intro y0 y1 y2
   unfold gjson_validnumber.j3
   repeat' first
   | (with_reducible exact ih0 _ _)
   | (with_reducible exact ih1 _ _)
   | (with_reducible exact ih2 _ _)
   | (with_reducible exact ih3 _ _ _)
   | (with_reducible exact ih4 _ _ _)
   | (with_reducible exact ih5 _ _)
   | (with_reducible exact ih6 _ _ _)
   | (with_reducible exact ih7 _ _)
   | (with_reducible exact ih8 _ _ _)
   | (with_reducible exact ih9 _ _)
   | (with_reducible exact ih10 _ _)
   | (with_reducible exact LeO.refl _)
   | (with_reducible exact LeO.none _)
   | (with_reducible refine LeO.ite ?_ ?_)
   | (with_reducible refine LeO.bind ?_ (fun _ => ?_))
   | exact ih0 _ _
   | exact ih1 _ _
   | exact ih2 _ _
   | exact ih3 _ _ _
   | exact ih4 _ _ _
   | exact ih5 _ _
   | exact ih6 _ _ _
   | exact ih7 _ _
   | exact ih8 _ _ _
   | exact ih9 _ _
   | exact ih10 _ _
   | exact LeO.none _
   | refine LeO.ite ?_ ?_
   | refine LeO.bind ?_ (fun _ => ?_)
  ·
   intro y0 y1
   unfold gjson_validnumber.l1
   repeat' first
   | (with_reducible exact ih0 _ _)
   | (with_reducible exact ih1 _ _)
   | (with_reducible exact ih2 _ _)
   | (with_reducible exact ih3 _ _ _)
   | (with_reducible exact ih4 _ _ _)
   | (with_reducible exact ih5 _ _)
   | (with_reducible exact ih6 _ _ _)
   | (with_reducible exact ih7 _ _)
   | (with_reducible exact ih8 _ _ _)
   | (with_reducible exact ih9 _ _)
   | (with_reducible exact ih10 _ _)
   | (with_reducible exact LeO.refl _)
   | (with_reducible exact LeO.none _)
   | (with_reducible refine LeO.ite ?_ ?_)
   | (with_reducible refine LeO.bind ?_ (fun _ => ?_))
   | exact ih0 _ _
   | exact ih1 _ _
   | exact ih2 _ _
   | exact ih3 _ _ _
   | exact ih4 _ _ _
   | exact ih5 _ _
   | exact ih6 _ _ _
   | exact ih7 _ _
   | exact ih8 _ _ _
   | exact ih9 _ _
   | exact ih10 _ _
   | exact LeO.none _
   | refine LeO.ite ?_ ?_
   | refine LeO.bind ?_ (fun _ => ?_)
  ·
   intro y0 y1
   unfold gjson_validnumber.l0
   repeat' first
   | (with_reducible exact ih0 _ _)
   | (with_reducible exact ih1 _ _)
   | (with_reducible exact ih2 _ _)
   | (with_reducible exact ih3 _ _ _)
   | (with_reducible exact ih4 _ _ _)
   | (with_reducible exact ih5 _ _)
   | (with_reducible exact ih6 _ _ _)
   | (with_reducible exact ih7 _ _)
   | (with_reducible exact ih8 _ _ _)
   | (with_reducible exact ih9 _ _)
   | (with_reducible exact ih10 _ _)
   | (with_reducible exact LeO.refl _)
   | (with_reducible exact LeO.none _)
   | (with_reducible refine LeO.ite ?_ ?_)
   | (with_reducible refine LeO.bind ?_ (fun _ => ?_))
   | exact ih0 _ _
   | exact ih1 _ _
   | exact ih2 _ _
   | exact ih3 _ _ _
   | exact ih4 _ _ _
   | exact ih5 _ _
   | exact ih6 _ _ _
   | exact ih7 _ _
   | exact ih8 _ _ _
   | exact ih9 _ _
   | exact ih10 _ _
   | exact LeO.none _
   | refine LeO.ite ?_ ?_
   | refine LeO.bind ?_ (fun _ => ?_)
theorem gjson_validnumber.mono : ∀ a0 a1 k, LeO (gjson_validnumber.f k a0 a1) (gjson_validnumber.f (k + 1) a0 a1) := by
 intro a0 a1 k
 obtain ⟨ih0, ih1, ih2, ih3, ih4, ih5, ih6, ih7, ih8, ih9, ih10⟩ := gjson_validnumber.mono_l k
 unfold gjson_validnumber.f
 repeat' first
   | (with_reducible exact ih0 _ _)
   | (with_reducible exact ih1 _ _)
   | (with_reducible exact ih2 _ _)
   | (with_reducible exact ih3 _ _ _)
   | (with_reducible exact ih4 _ _ _)
   | (with_reducible exact ih5 _ _)
   | (with_reducible exact ih6 _ _ _)
   | (with_reducible exact ih7 _ _)
   | (with_reducible exact ih8 _ _ _)
   | (with_reducible exact ih9 _ _)
   | (with_reducible exact ih10 _ _)
   | (with_reducible exact LeO.refl _)
   | (with_reducible exact LeO.none _)
   | (with_reducible refine LeO.ite ?_ ?_)
   | (with_reducible refine LeO.bind ?_ (fun _ => ?_))
   | exact ih0 _ _
   | exact ih1 _ _
   | exact ih2 _ _
   | exact ih3 _ _ _
   | exact ih4 _ _ _
   | exact ih5 _ _
   | exact ih6 _ _ _
   | exact ih7 _ _
   | exact ih8 _ _ _
   | exact ih9 _ _
   | exact ih10 _ _
   | exact LeO.none _
   | refine LeO.ite ?_ ?_
   | refine LeO.bind ?_ (fun _ => ?_)
set_option maxHeartbeats 8000000 in
set_option maxRecDepth 100000 in
theorem gjson_validnumber.calls (k : Nat) (A0 : Option Addr) (c0 : Nat) (l0 : List Int) (a1 : Int) (r1 : Int) (r2 : Bool) (w : World) (hr0 : Kd.C (Kd.int .u8) w A0 l0.length l0) (hc0 : l0.length ≤ c0) (h : gjson_validnumber.f k l0 a1 = some (r1, r2)) :
  Calls Try.prog 31 #[.slice A0 l0.length c0, .int .i64 a1] w fun e w' => e = .returned (.tuple #[.int .i64 r1, .bool r2]) ∧ Drawn0 w w' := by
 have HR0 := Aside0.mk hr0
 have HC0 := Aside0.mk hc0
 clear hr0 hc0
 have H : (if 0 ≤ (wrap64 (a1 - 1)) then (if (wrap64 (a1 - 1)) < (l0.length : Int) then (if (rd l0 (wrap64 (a1 - 1))) = 45 then (if (wrap64 ((wrap64 (a1 - 1)) + 1)) = (l0.length : Int) then (some (wrap64 ((wrap64 (a1 - 1)) + 1), false)) else (if 0 ≤ (wrap64 ((wrap64 (a1 - 1)) + 1)) then (if (wrap64 ((wrap64 (a1 - 1)) + 1)) < (l0.length : Int) then (if (rd l0 (wrap64 ((wrap64 (a1 - 1)) + 1))) < 48 then (some (wrap64 ((wrap64 (a1 - 1)) + 1), false)) else (if (rd l0 (wrap64 ((wrap64 (a1 - 1)) + 1))) > 57 then (some (wrap64 ((wrap64 (a1 - 1)) + 1), false)) else (gjson_validnumber.j0 k l0 (wrap64 ((wrap64 (a1 - 1)) + 1))))) else (none)) else (none))) else (gjson_validnumber.j0 k l0 (wrap64 (a1 - 1)))) else (none)) else (none)) = some (r1, r2) := h
 clear h
 obtain ⟨ji3, hji3⟩ : ∃ j_ : Int, (wrap64 (a1 - 1)) = j_ := ⟨_, rfl⟩
 replace H : (if 0 ≤ (ji3) then (if (ji3) < (l0.length : Int) then (if (rd l0 (ji3)) = 45 then (if (wrap64 ((ji3) + 1)) = (l0.length : Int) then (some (wrap64 ((ji3) + 1), false)) else (if 0 ≤ (wrap64 ((ji3) + 1)) then (if (wrap64 ((ji3) + 1)) < (l0.length : Int) then (if (rd l0 (wrap64 ((ji3) + 1))) < 48 then (some (wrap64 ((ji3) + 1), false)) else (if (rd l0 (wrap64 ((ji3) + 1))) > 57 then (some (wrap64 ((ji3) + 1), false)) else (gjson_validnumber.j0 k l0 (wrap64 ((ji3) + 1))))) else (none)) else (none))) else (gjson_validnumber.j0 k l0 ji3)) else (none)) else (none)) = some (r1, r2) := by first | (rw [hji3] at H; exact H) | (simp only [hji3] at H ⊢; exact H)
 have hji3w : (IntKind.i64.wrap (a1 - 1)) = ji3 := (i64_w _).trans hji3
 by_cases c4 : 0 ≤ (ji3)
 ·
  rw [if_pos c4] at H
  have c4b0 : decide (0 ≤ (ji3)) = true := decide_eq_true c4
  clear c4
  by_cases c5 : (ji3) < (l0.length : Int)
  ·
   rw [if_pos c5] at H
   have c5b0 : decide ((ji3) < (l0.length : Int)) = true := decide_eq_true c5
   clear c5
   have HC6 := Aside0.mk H
   clear H
   have p372 : 0 ≤ ((ji3) : Int) := of_decide_eq_true (by first | (with_reducible assumption) | assumption)
   have q372 : (ji3) < (l0.length : Int) := of_decide_eq_true (by first | (with_reducible assumption) | assumption)
   obtain ⟨ad372, e372, hx372_0⟩ := Kd.at_int HR0.out (ji3) p372 q372
   cases e372
   replace p372 := eq_true p372
   replace q372 := eq_true q372
   go_enter Try.func31, Try.ntmps31
   go_upto_if 12 with (fail)
   go_cut [1] (fun v1 wc => ∃ (kq : Nat) (x1_5 : Int), v1 = .int .i64 x1_5 ∧ Aside0 (gjson_validnumber.j0 kq l0 x1_5 = some (r1, r2)) ∧ Aside0 (kq ≤ k) ∧ Drawn0 w wc)
   case first =>
    as_aux_lemma =>
    have H := HC6.out
    clear HC6
    by_cases c7 : (rd l0 (ji3)) = 45
    ·
     rw [if_pos c7] at H
     have c7b0 : ((rd l0 (ji3)) == 45) = true := beq_iff_eq.mpr c7
     have c7b1 : ((rd l0 (ji3)) != 45) = false := bne_eq_false_iff_eq.mpr c7
     clear c7
     (first | rw [c7b0] | (simp only [i64_w, i32_w]; rw [c7b0]) | skip)
     by_cases c8 : (wrap64 ((ji3) + 1)) = (l0.length : Int)
     ·
      rw [if_pos c8] at H
      have c8b0 : ((wrap64 ((ji3) + 1)) == (l0.length : Int)) = true := beq_iff_eq.mpr c8
      have c8b1 : ((wrap64 ((ji3) + 1)) != (l0.length : Int)) = false := bne_eq_false_iff_eq.mpr c8
      clear c8
      simp only [Option.some.injEq, Prod.mk.injEq] at H
      obtain ⟨rfl, rfl⟩ := H
      go_wp2
      go_ret2
      exact ⟨by first | rfl | (simp; done) | (simp only [← hji3] <;> (first | rfl | simp)) | (simp [*]; done), by repeat (first | exact Drawn0.refl _ | apply Drawn0.step)⟩
     ·
      rw [if_neg c8] at H
      have c8b0 : ((wrap64 ((ji3) + 1)) == (l0.length : Int)) = false := beq_eq_false_iff_ne.mpr c8
      have c8b1 : ((wrap64 ((ji3) + 1)) != (l0.length : Int)) = true := bne_iff_ne.mpr c8
      obtain ⟨ji9, hji9⟩ : ∃ j_ : Int, (wrap64 ((ji3) + 1)) = j_ := ⟨_, rfl⟩
      replace H : (if 0 ≤ (ji9) then (if (ji9) < (l0.length : Int) then (if (rd l0 (ji9)) < 48 then (some (ji9, false)) else (if (rd l0 (ji9)) > 57 then (some (ji9, false)) else (gjson_validnumber.j0 k l0 ji9))) else (none)) else (none)) = some (r1, r2) := by first | (rw [hji9] at H; exact H) | (simp only [hji9] at H ⊢; exact H)
      (try rw [hji9] at c8b0)
      (try rw [hji9] at c8b1)
      have hji9w : (IntKind.i64.wrap ((ji3) + 1)) = ji9 := (i64_w _).trans hji9
      by_cases c10 : 0 ≤ (ji9)
      ·
       rw [if_pos c10] at H
       have c10b0 : decide (0 ≤ (ji9)) = true := decide_eq_true c10
       clear c10
       by_cases c11 : (ji9) < (l0.length : Int)
       ·
        rw [if_pos c11] at H
        have c11b0 : decide ((ji9) < (l0.length : Int)) = true := decide_eq_true c11
        clear c11
        by_cases c12 : (rd l0 (ji9)) < 48
        ·
         rw [if_pos c12] at H
         have c12b0 : decide ((rd l0 (ji9)) < 48) = true := decide_eq_true c12
         clear c12
         simp only [Option.some.injEq, Prod.mk.injEq] at H
         obtain ⟨rfl, rfl⟩ := H
         have p373 : 0 ≤ ((ji9) : Int) := of_decide_eq_true (by first | (with_reducible assumption) | assumption)
         have q373 : (ji9) < (l0.length : Int) := of_decide_eq_true (by first | (with_reducible assumption) | assumption)
         obtain ⟨ad373, e373, hx373_0⟩ := Kd.at_int HR0.out (ji9) p373 q373
         obtain rfl : ad372 = ad373 := (by injection e373)
         replace p373 := eq_true p373
         replace q373 := eq_true q373
         go_wp2
         go_ret2
         exact ⟨by first | rfl | (simp; done) | (simp only [← hji3, ← hji9] <;> (first | rfl | simp)) | (simp [*]; done), by repeat (first | exact Drawn0.refl _ | apply Drawn0.step)⟩
        ·
         rw [if_neg c12] at H
         have c12b0 : decide ((rd l0 (ji9)) < 48) = false := decide_eq_false c12
         clear c12
         by_cases c13 : (rd l0 (ji9)) > 57
         ·
          rw [if_pos c13] at H
          have c13b0 : decide (57 < (rd l0 (ji9))) = true := decide_eq_true c13
          clear c13
          simp only [Option.some.injEq, Prod.mk.injEq] at H
          obtain ⟨rfl, rfl⟩ := H
          have p373 : 0 ≤ ((ji9) : Int) := of_decide_eq_true (by first | (with_reducible assumption) | assumption)
          have q373 : (ji9) < (l0.length : Int) := of_decide_eq_true (by first | (with_reducible assumption) | assumption)
          obtain ⟨ad373, e373, hx373_0⟩ := Kd.at_int HR0.out (ji9) p373 q373
          obtain rfl : ad372 = ad373 := (by injection e373)
          replace p373 := eq_true p373
          replace q373 := eq_true q373
          have p374 : 0 ≤ ((ji9) : Int) := of_decide_eq_true (by first | (with_reducible assumption) | assumption)
          have q374 : (ji9) < (l0.length : Int) := of_decide_eq_true (by first | (with_reducible assumption) | assumption)
          obtain ⟨ad374, e374, hx374_0⟩ := Kd.at_int HR0.out (ji9) p374 q374
          obtain rfl : ad372 = ad374 := (by injection e374)
          replace p374 := eq_true p374
          replace q374 := eq_true q374
          go_wp2
          go_ret2
          exact ⟨by first | rfl | (simp; done) | (simp only [← hji3, ← hji9] <;> (first | rfl | simp)) | (simp [*]; done), by repeat (first | exact Drawn0.refl _ | apply Drawn0.step)⟩
         ·
          rw [if_neg c13] at H
          have c13b0 : decide (57 < (rd l0 (ji9))) = false := decide_eq_false c13
          clear c13
          have H' := Aside0.mk H
          clear H
          have p373 : 0 ≤ ((ji9) : Int) := of_decide_eq_true (by first | (with_reducible assumption) | assumption)
          have q373 : (ji9) < (l0.length : Int) := of_decide_eq_true (by first | (with_reducible assumption) | assumption)
          obtain ⟨ad373, e373, hx373_0⟩ := Kd.at_int HR0.out (ji9) p373 q373
          obtain rfl : ad372 = ad373 := (by injection e373)
          replace p373 := eq_true p373
          replace q373 := eq_true q373
          have p374 : 0 ≤ ((ji9) : Int) := of_decide_eq_true (by first | (with_reducible assumption) | assumption)
          have q374 : (ji9) < (l0.length : Int) := of_decide_eq_true (by first | (with_reducible assumption) | assumption)
          obtain ⟨ad374, e374, hx374_0⟩ := Kd.at_int HR0.out (ji9) p374 q374
          obtain rfl : ad372 = ad374 := (by injection e374)
          replace p374 := eq_true p374
          replace q374 := eq_true q374
          go_wp2
          go_meet
          case rel => exact ⟨_, (ji9), (by first | rfl | (simp; done) | (simp only [← hji9] <;> (first | rfl | simp)) | (simp [*]; done)), H', ⟨by first | omega | exact Nat.le_refl _⟩, by repeat (first | exact Drawn0.refl _ | apply Drawn0.step)⟩
       ·
        rw [if_neg c11] at H
        exact absurd H (by simp)
      ·
       rw [if_neg c10] at H
       exact absurd H (by simp)
    ·
     rw [if_neg c7] at H
     have c7b0 : ((rd l0 (ji3)) == 45) = false := beq_eq_false_iff_ne.mpr c7
     have c7b1 : ((rd l0 (ji3)) != 45) = true := bne_iff_ne.mpr c7
     (first | rw [c7b0] | (simp only [i64_w, i32_w]; rw [c7b0]) | skip)
     have H' := Aside0.mk H
     clear H
     go_wp2
     go_meet
     case rel => exact ⟨_, (ji3), (by first | rfl | (simp; done) | (simp only [← hji3] <;> (first | rfl | simp)) | (simp [*]; done)), H', ⟨by first | omega | exact Nat.le_refl _⟩, by repeat (first | exact Drawn0.refl _ | apply Drawn0.step)⟩
   case rest =>
    as_aux_lemma =>
    clear HC6
    (try clear c1); (try clear p2); (try clear c3); (try clear p3); (try clear q3); (try clear hx3); (try clear c4); (try clear c4b0); (try clear c5); (try clear c5b0); (try clear p6); (try clear c7); (try clear c7b0); (try clear c7b1); (try clear c8); (try clear c8b0); (try clear c8b1); (try clear c10); (try clear c10b0); (try clear c11); (try clear c11b0); (try clear c12); (try clear c12b0); (try clear c13); (try clear c13b0); (try clear hx372_0); (try clear hx373_0); (try clear hx374_0); (try clear p372); (try clear p373); (try clear p374); (try clear q372); (try clear q373); (try clear q374)
    obtain ⟨kq, x1_5, rfl, HA, HJ5, ⟨mc5, rfl⟩⟩ := hcut
    cases kq with
    | zero => exact absurd HA.out (by simp [gjson_validnumber.j0])
    | succ kj5 =>
     have H := HA.out
     clear HA
     simp only [gjson_validnumber.j0] at H
     by_cases c14 : x1_5 = (l0.length : Int)
     ·
      rw [if_pos c14] at H
      have c14b0 : (x1_5 == (l0.length : Int)) = true := beq_iff_eq.mpr c14
      have c14b1 : (x1_5 != (l0.length : Int)) = false := bne_eq_false_iff_eq.mpr c14
      clear c14
      simp only [Option.some.injEq, Prod.mk.injEq] at H
      obtain ⟨rfl, rfl⟩ := H
      go_wp2
      go_ret2
      exact ⟨by first | rfl | (simp; done) | (simp only [← hji3] <;> (first | rfl | simp)) | (simp [*]; done), by repeat (first | exact Drawn0.refl _ | apply Drawn0.step)⟩
     ·
      rw [if_neg c14] at H
      have c14b0 : (x1_5 == (l0.length : Int)) = false := beq_eq_false_iff_ne.mpr c14
      have c14b1 : (x1_5 != (l0.length : Int)) = true := bne_iff_ne.mpr c14
      by_cases c15 : 0 ≤ x1_5
      ·
       rw [if_pos c15] at H
       have c15b0 : decide (0 ≤ x1_5) = true := decide_eq_true c15
       clear c15
       by_cases c16 : x1_5 < (l0.length : Int)
       ·
        rw [if_pos c16] at H
        have c16b0 : decide (x1_5 < (l0.length : Int)) = true := decide_eq_true c16
        clear c16
        have HC17 := Aside0.mk H
        clear H
        have p375 : 0 ≤ (x1_5 : Int) := of_decide_eq_true (by first | (with_reducible assumption) | assumption)
        have q375 : x1_5 < (l0.length : Int) := of_decide_eq_true (by first | (with_reducible assumption) | assumption)
        obtain ⟨ad375, e375, hx375_0⟩ := Kd.at_int HR0.out x1_5 p375 q375
        obtain rfl : ad372 = ad375 := (by injection e375)
        replace p375 := eq_true p375
        replace q375 := eq_true q375
        go_upto_if 42 with (fail)
        go_cut [1] (fun v1 wc => ∃ (kq : Nat) (x1_16 : Int), v1 = .int .i64 x1_16 ∧ Aside0 (gjson_validnumber.j2 kq l0 x1_16 = some (r1, r2)) ∧ Aside0 (kq ≤ kj5) ∧ Drawn0 w wc)
        case first =>
         as_aux_lemma =>
         have H := HC17.out
         clear HC17
         by_cases c18 : (rd l0 x1_5) = 48
         ·
          rw [if_pos c18] at H
          have c18b0 : ((rd l0 x1_5) == 48) = true := beq_iff_eq.mpr c18
          have c18b1 : ((rd l0 x1_5) != 48) = false := bne_eq_false_iff_eq.mpr c18
          clear c18
          (first | rw [c18b0] | (simp only [i64_w, i32_w]; rw [c18b0]) | skip)
          have H' := Aside0.mk H
          clear H
          go_wp2
          go_meet
          case rel => exact ⟨_, (wrap64 (x1_5 + 1)), (by first | rfl | (simp; done) | (simp [*]; done) | (simp; rw [Bool.eq_iff_iff]; simp; done)), H', ⟨by have := HJ5.out; first | omega | exact Nat.le_refl _⟩, by repeat (first | exact Drawn0.refl _ | apply Drawn0.step)⟩
         ·
          rw [if_neg c18] at H
          have c18b0 : ((rd l0 x1_5) == 48) = false := beq_eq_false_iff_ne.mpr c18
          have c18b1 : ((rd l0 x1_5) != 48) = true := bne_iff_ne.mpr c18
          (first | rw [c18b0] | (simp only [i64_w, i32_w]; rw [c18b0]) | skip)
          have H' := Aside0.mk H
          clear H
          go_wp2
          try simp only [Act.put, List.setIfInBounds_toArray, List.set_cons_succ, List.set_cons_zero]
          go_loopg [1] kj5 (fun kq v1 w' => ∃ (x1_2 : Int), v1 = .int .i64 x1_2 ∧ Aside0 (gjson_validnumber.l0 kq l0 x1_2 = some (r1, r2)) ∧ Aside0 (kq ≤ kj5) ∧ Drawn0 w w')
          case atStart => exact ⟨(x1_5), (by first | rfl | (simp; done) | (simp [*]; done) | (simp; rw [Bool.eq_iff_iff]; simp; done)), H', ⟨Nat.le_refl _⟩, by repeat (first | exact Drawn0.refl _ | apply Drawn0.step)⟩
          case round =>
           as_aux_lemma =>
           clear H'
           (try clear c1); (try clear p2); (try clear c3); (try clear p3); (try clear q3); (try clear hx3); (try clear c4); (try clear c4b0); (try clear c5); (try clear c5b0); (try clear p6); (try clear c7); (try clear c7b0); (try clear c7b1); (try clear c8); (try clear c8b0); (try clear c8b1); (try clear c10); (try clear c10b0); (try clear c11); (try clear c11b0); (try clear c12); (try clear c12b0); (try clear c13); (try clear c13b0); (try clear c14); (try clear c14b0); (try clear c14b1); (try clear c15); (try clear c15b0); (try clear c16); (try clear c16b0); (try clear c18); (try clear c18b0); (try clear c18b1); (try clear hx372_0); (try clear hx373_0); (try clear hx374_0); (try clear hx375_0); (try clear p2); (try clear p3); (try clear p372); (try clear p373); (try clear p374); (try clear p375); (try clear p6); (try clear q3); (try clear q372); (try clear q373); (try clear q374); (try clear q375)
           obtain ⟨x1_2, rfl, HA, HK2, ⟨m2, rfl⟩⟩ := hrel
           cases gk with
           | zero => exact absurd HA.out (by simp [gjson_validnumber.l0])
           | succ k2 =>
            have H := HA.out
            clear HA
            simp only [gjson_validnumber.l0] at H
            by_cases c19 : x1_2 < (l0.length : Int)
            ·
             rw [if_pos c19] at H
             have c19b0 : decide (x1_2 < (l0.length : Int)) = true := decide_eq_true c19
             clear c19
             by_cases c20 : 0 ≤ x1_2
             ·
              rw [if_pos c20] at H
              have c20b0 : decide (0 ≤ x1_2) = true := decide_eq_true c20
              clear c20
              by_cases c21 : (rd l0 x1_2) ≥ 48
              ·
               rw [if_pos c21] at H
               have c21b0 : decide (48 ≤ (rd l0 x1_2)) = true := decide_eq_true c21
               clear c21
               by_cases c22 : (rd l0 x1_2) ≤ 57
               ·
                rw [if_pos c22] at H
                have c22b0 : decide ((rd l0 x1_2) ≤ 57) = true := decide_eq_true c22
                clear c22
                have H' := Aside0.mk H
                clear H
                have p376 : 0 ≤ (x1_2 : Int) := of_decide_eq_true (by first | (with_reducible assumption) | assumption)
                have q376 : x1_2 < (l0.length : Int) := of_decide_eq_true (by first | (with_reducible assumption) | assumption)
                obtain ⟨ad376, e376, hx376_0⟩ := Kd.at_int HR0.out x1_2 p376 q376
                obtain rfl : ad372 = ad376 := (by injection e376)
                replace p376 := eq_true p376
                replace q376 := eq_true q376
                have p377 : 0 ≤ (x1_2 : Int) := of_decide_eq_true (by first | (with_reducible assumption) | assumption)
                have q377 : x1_2 < (l0.length : Int) := of_decide_eq_true (by first | (with_reducible assumption) | assumption)
                obtain ⟨ad377, e377, hx377_0⟩ := Kd.at_int HR0.out x1_2 p377 q377
                obtain rfl : ad372 = ad377 := (by injection e377)
                replace p377 := eq_true p377
                replace q377 := eq_true q377
                go_wp2
                go_roundg k2
                case measure => have := HJ5.out; have := HK2.out; omega
                case rel => exact ⟨(wrap64 (x1_2 + 1)), (by first | rfl | (simp; done) | (simp [*]; done) | (simp; rw [Bool.eq_iff_iff]; simp; done)), H', ⟨by have := HJ5.out; have := HK2.out; omega⟩, by repeat (first | exact Drawn0.refl _ | apply Drawn0.step)⟩
               ·
                rw [if_neg c22] at H
                have c22b0 : decide ((rd l0 x1_2) ≤ 57) = false := decide_eq_false c22
                clear c22
                have H' := Aside0.mk H
                clear H
                have p376 : 0 ≤ (x1_2 : Int) := of_decide_eq_true (by first | (with_reducible assumption) | assumption)
                have q376 : x1_2 < (l0.length : Int) := of_decide_eq_true (by first | (with_reducible assumption) | assumption)
                obtain ⟨ad376, e376, hx376_0⟩ := Kd.at_int HR0.out x1_2 p376 q376
                obtain rfl : ad372 = ad376 := (by injection e376)
                replace p376 := eq_true p376
                replace q376 := eq_true q376
                have p377 : 0 ≤ (x1_2 : Int) := of_decide_eq_true (by first | (with_reducible assumption) | assumption)
                have q377 : x1_2 < (l0.length : Int) := of_decide_eq_true (by first | (with_reducible assumption) | assumption)
                obtain ⟨ad377, e377, hx377_0⟩ := Kd.at_int HR0.out x1_2 p377 q377
                obtain rfl : ad372 = ad377 := (by injection e377)
                replace p377 := eq_true p377
                replace q377 := eq_true q377
                go_wp2
                go_meet
                case rel => exact ⟨_, (x1_2), (by first | rfl | (simp; done) | (simp [*]; done) | (simp; rw [Bool.eq_iff_iff]; simp; done)), H', ⟨by have := HJ5.out; have := HK2.out; first | omega | exact Nat.le_refl _⟩, by repeat (first | exact Drawn0.refl _ | apply Drawn0.step)⟩
              ·
               rw [if_neg c21] at H
               have c21b0 : decide (48 ≤ (rd l0 x1_2)) = false := decide_eq_false c21
               clear c21
               have H' := Aside0.mk H
               clear H
               have p376 : 0 ≤ (x1_2 : Int) := of_decide_eq_true (by first | (with_reducible assumption) | assumption)
               have q376 : x1_2 < (l0.length : Int) := of_decide_eq_true (by first | (with_reducible assumption) | assumption)
               obtain ⟨ad376, e376, hx376_0⟩ := Kd.at_int HR0.out x1_2 p376 q376
               obtain rfl : ad372 = ad376 := (by injection e376)
               replace p376 := eq_true p376
               replace q376 := eq_true q376
               go_wp2
               go_meet
               case rel => exact ⟨_, (x1_2), (by first | rfl | (simp; done) | (simp [*]; done) | (simp; rw [Bool.eq_iff_iff]; simp; done)), H', ⟨by have := HJ5.out; have := HK2.out; first | omega | exact Nat.le_refl _⟩, by repeat (first | exact Drawn0.refl _ | apply Drawn0.step)⟩
             ·
              rw [if_neg c20] at H
              exact absurd H (by simp)
            ·
             rw [if_neg c19] at H
             have c19b0 : decide (x1_2 < (l0.length : Int)) = false := decide_eq_false c19
             clear c19
             have H' := Aside0.mk H
             clear H
             go_wp2
             go_meet
             case rel => exact ⟨_, (x1_2), (by first | rfl | (simp; done) | (simp [*]; done) | (simp; rw [Bool.eq_iff_iff]; simp; done)), H', ⟨by have := HJ5.out; have := HK2.out; first | omega | exact Nat.le_refl _⟩, by repeat (first | exact Drawn0.refl _ | apply Drawn0.step)⟩
        case rest =>
         as_aux_lemma =>
         clear HC17
         (try clear c1); (try clear c2); (try clear p2); (try clear c3); (try clear p3); (try clear q3); (try clear hx3); (try clear c4); (try clear c4b0); (try clear c5); (try clear c5b0); (try clear p6); (try clear c7); (try clear c7b0); (try clear c7b1); (try clear c8); (try clear c8b0); (try clear c8b1); (try clear c10); (try clear c10b0); (try clear c11); (try clear c11b0); (try clear c12); (try clear c12b0); (try clear c13); (try clear c13b0); (try clear c14); (try clear c14b0); (try clear c14b1); (try clear c15); (try clear c15b0); (try clear c16); (try clear c16b0); (try clear c18); (try clear c18b0); (try clear c18b1); (try clear c19); (try clear c19b0); (try clear c20); (try clear c20b0); (try clear c21); (try clear c21b0); (try clear c22); (try clear c22b0); (try clear hx372_0); (try clear hx373_0); (try clear hx374_0); (try clear hx375_0); (try clear hx376_0); (try clear hx377_0); (try clear p2); (try clear p3); (try clear p372); (try clear p373); (try clear p374); (try clear p375); (try clear p376); (try clear p377); (try clear p6); (try clear q3); (try clear q372); (try clear q373); (try clear q374); (try clear q375); (try clear q376); (try clear q377)
         obtain ⟨kq, x1_16, rfl, HA, HJ16, ⟨mc16, rfl⟩⟩ := hcut
         cases kq with
         | zero => exact absurd HA.out (by simp [gjson_validnumber.j2])
         | succ kj16 =>
          have H := HA.out
          clear HA
          simp only [gjson_validnumber.j2] at H
          by_cases c23 : x1_16 = (l0.length : Int)
          ·
           rw [if_pos c23] at H
           have c23b0 : (x1_16 == (l0.length : Int)) = true := beq_iff_eq.mpr c23
           have c23b1 : (x1_16 != (l0.length : Int)) = false := bne_eq_false_iff_eq.mpr c23
           clear c23
           simp only [Option.some.injEq, Prod.mk.injEq] at H
           obtain ⟨rfl, rfl⟩ := H
           go_wp2
           go_ret2
           exact ⟨by first | rfl | (simp; done) | (simp only [← hji3] <;> (first | rfl | simp)) | (simp [*]; done), by repeat (first | exact Drawn0.refl _ | apply Drawn0.step)⟩
          ·
           rw [if_neg c23] at H
           have c23b0 : (x1_16 == (l0.length : Int)) = false := beq_eq_false_iff_ne.mpr c23
           have c23b1 : (x1_16 != (l0.length : Int)) = true := bne_iff_ne.mpr c23
           by_cases c24 : 0 ≤ x1_16
           ·
            rw [if_pos c24] at H
            have c24b0 : decide (0 ≤ x1_16) = true := decide_eq_true c24
            clear c24
            by_cases c25 : x1_16 < (l0.length : Int)
            ·
             rw [if_pos c25] at H
             have c25b0 : decide (x1_16 < (l0.length : Int)) = true := decide_eq_true c25
             clear c25
             have HC26 := Aside0.mk H
             clear H
             have p378 : 0 ≤ (x1_16 : Int) := of_decide_eq_true (by first | (with_reducible assumption) | assumption)
             have q378 : x1_16 < (l0.length : Int) := of_decide_eq_true (by first | (with_reducible assumption) | assumption)
             obtain ⟨ad378, e378, hx378_0⟩ := Kd.at_int HR0.out x1_16 p378 q378
             obtain rfl : ad372 = ad378 := (by injection e378)
             replace p378 := eq_true p378
             replace q378 := eq_true q378
             go_upto_if 72 with (fail)
             go_cut [1] (fun v1 wc => ∃ (kq : Nat) (x1_25 : Int), v1 = .int .i64 x1_25 ∧ Aside0 (gjson_validnumber.j5 kq l0 x1_25 = some (r1, r2)) ∧ Aside0 (kq ≤ kj16) ∧ Drawn0 w wc)
             case first =>
              as_aux_lemma =>
              have H := HC26.out
              clear HC26
              by_cases c27 : (rd l0 x1_16) = 46
              ·
               rw [if_pos c27] at H
               have c27b0 : ((rd l0 x1_16) == 46) = true := beq_iff_eq.mpr c27
               have c27b1 : ((rd l0 x1_16) != 46) = false := bne_eq_false_iff_eq.mpr c27
               clear c27
               (first | rw [c27b0] | (simp only [i64_w, i32_w]; rw [c27b0]) | skip)
               by_cases c28 : (wrap64 (x1_16 + 1)) = (l0.length : Int)
               ·
                rw [if_pos c28] at H
                have c28b0 : ((wrap64 (x1_16 + 1)) == (l0.length : Int)) = true := beq_iff_eq.mpr c28
                have c28b1 : ((wrap64 (x1_16 + 1)) != (l0.length : Int)) = false := bne_eq_false_iff_eq.mpr c28
                clear c28
                simp only [Option.some.injEq, Prod.mk.injEq] at H
                obtain ⟨rfl, rfl⟩ := H
                go_wp2
                go_ret2
                exact ⟨by first | rfl | (simp; done) | (simp only [← hji3] <;> (first | rfl | simp)) | (simp [*]; done), by repeat (first | exact Drawn0.refl _ | apply Drawn0.step)⟩
               ·
                rw [if_neg c28] at H
                have c28b0 : ((wrap64 (x1_16 + 1)) == (l0.length : Int)) = false := beq_eq_false_iff_ne.mpr c28
                have c28b1 : ((wrap64 (x1_16 + 1)) != (l0.length : Int)) = true := bne_iff_ne.mpr c28
                have HC29 := Aside0.mk H
                clear H
                go_upto_region 21 with (fail)
                go_cut [91] (fun v91 wc => ∃ (kq : Nat) (x91_28 : Bool), v91 = .bool x91_28 ∧ Aside0 (gjson_validnumber.j3 kq l0 (wrap64 (x1_16 + 1)) x91_28 = some (r1, r2)) ∧ Aside0 (kq ≤ kj16) ∧ Drawn0 w wc)
                case first =>
                 as_aux_lemma =>
                 have H := HC29.out
                 clear HC29
                 obtain ⟨ji30, hji30⟩ : ∃ j_ : Int, (wrap64 (x1_16 + 1)) = j_ := ⟨_, rfl⟩
                 replace H : (if 0 ≤ (ji30) then (if (ji30) < (l0.length : Int) then (if (rd l0 (ji30)) < 48 then (gjson_validnumber.j3 kj16 l0 ji30 true) else (gjson_validnumber.j3 kj16 l0 ji30 (decide ((rd l0 (ji30)) > 57)))) else (none)) else (none)) = some (r1, r2) := by first | (rw [hji30] at H; exact H) | (simp only [hji30] at H ⊢; exact H)
                 (try rw [hji30] at c28b0)
                 (try rw [hji30] at c28b1)
                 have hji30w : (IntKind.i64.wrap (x1_16 + 1)) = ji30 := (i64_w _).trans hji30
                 by_cases c31 : 0 ≤ (ji30)
                 ·
                  rw [if_pos c31] at H
                  have c31b0 : decide (0 ≤ (ji30)) = true := decide_eq_true c31
                  clear c31
                  (first | rw [c31b0] | (simp only [i64_w, i32_w]; rw [c31b0]) | skip)
                  by_cases c32 : (ji30) < (l0.length : Int)
                  ·
                   rw [if_pos c32] at H
                   have c32b0 : decide ((ji30) < (l0.length : Int)) = true := decide_eq_true c32
                   clear c32
                   by_cases c33 : (rd l0 (ji30)) < 48
                   ·
                    rw [if_pos c33] at H
                    have c33b0 : decide ((rd l0 (ji30)) < 48) = true := decide_eq_true c33
                    clear c33
                    have H' := Aside0.mk H
                    clear H
                    have p379 : 0 ≤ ((ji30) : Int) := of_decide_eq_true (by first | (with_reducible assumption) | assumption)
                    have q379 : (ji30) < (l0.length : Int) := of_decide_eq_true (by first | (with_reducible assumption) | assumption)
                    obtain ⟨ad379, e379, hx379_0⟩ := Kd.at_int HR0.out (ji30) p379 q379
                    obtain rfl : ad372 = ad379 := (by injection e379)
                    replace p379 := eq_true p379
                    replace q379 := eq_true q379
                    go_wp2
                    subst hji30
                    go_meet
                    case rel => exact ⟨_, (true), (by first | rfl | (simp; done) | (simp [*]; done) | (simp; rw [Bool.eq_iff_iff]; simp; done)), H', ⟨by have := HJ5.out; have := HJ16.out; first | omega | exact Nat.le_refl _⟩, by repeat (first | exact Drawn0.refl _ | apply Drawn0.step)⟩
                   ·
                    rw [if_neg c33] at H
                    have c33b0 : decide ((rd l0 (ji30)) < 48) = false := decide_eq_false c33
                    clear c33
                    have H' := Aside0.mk H
                    clear H
                    have p379 : 0 ≤ ((ji30) : Int) := of_decide_eq_true (by first | (with_reducible assumption) | assumption)
                    have q379 : (ji30) < (l0.length : Int) := of_decide_eq_true (by first | (with_reducible assumption) | assumption)
                    obtain ⟨ad379, e379, hx379_0⟩ := Kd.at_int HR0.out (ji30) p379 q379
                    obtain rfl : ad372 = ad379 := (by injection e379)
                    replace p379 := eq_true p379
                    replace q379 := eq_true q379
                    have p380 : 0 ≤ ((ji30) : Int) := of_decide_eq_true (by first | (with_reducible assumption) | assumption)
                    have q380 : (ji30) < (l0.length : Int) := of_decide_eq_true (by first | (with_reducible assumption) | assumption)
                    obtain ⟨ad380, e380, hx380_0⟩ := Kd.at_int HR0.out (ji30) p380 q380
                    obtain rfl : ad372 = ad380 := (by injection e380)
                    replace p380 := eq_true p380
                    replace q380 := eq_true q380
                    go_wp2
                    subst hji30
                    go_meet
                    case rel => exact ⟨_, (decide ((rd l0 (wrap64 (x1_16 + 1))) > 57)), (by first | rfl | (simp; done) | (simp only [← hji30] <;> (first | rfl | simp)) | (simp [*]; done)), H', ⟨by have := HJ5.out; have := HJ16.out; first | omega | exact Nat.le_refl _⟩, by repeat (first | exact Drawn0.refl _ | apply Drawn0.step)⟩
                  ·
                   rw [if_neg c32] at H
                   exact absurd H (by simp)
                 ·
                  rw [if_neg c31] at H
                  exact absurd H (by simp)
                case rest =>
                 as_aux_lemma =>
                 clear HC29
                 (try clear c1); (try clear c2); (try clear p2); (try clear c3); (try clear p3); (try clear q3); (try clear hx3); (try clear c4); (try clear c4b0); (try clear c5); (try clear c5b0); (try clear p6); (try clear c7); (try clear c7b0); (try clear c7b1); (try clear c8); (try clear c8b0); (try clear c8b1); (try clear c10); (try clear c10b0); (try clear c11); (try clear c11b0); (try clear c12); (try clear c12b0); (try clear c13); (try clear c13b0); (try clear c14); (try clear c14b0); (try clear c14b1); (try clear c15); (try clear c15b0); (try clear c16); (try clear c16b0); (try clear c18); (try clear c18b0); (try clear c18b1); (try clear c19); (try clear c19b0); (try clear c20); (try clear c20b0); (try clear c21); (try clear c21b0); (try clear c22); (try clear c22b0); (try clear c23); (try clear c23b0); (try clear c23b1); (try clear c24); (try clear c24b0); (try clear c25); (try clear c25b0); (try clear c27); (try clear c27b0); (try clear c27b1); (try clear c28); (try clear c28b0); (try clear c28b1); (try clear c31); (try clear c31b0); (try clear c32); (try clear c32b0); (try clear c33); (try clear c33b0); (try clear hx372_0); (try clear hx373_0); (try clear hx374_0); (try clear hx375_0); (try clear hx376_0); (try clear hx377_0); (try clear hx378_0); (try clear hx379_0); (try clear hx380_0); (try clear p2); (try clear p3); (try clear p372); (try clear p373); (try clear p374); (try clear p375); (try clear p376); (try clear p377); (try clear p378); (try clear p379); (try clear p380); (try clear p6); (try clear q3); (try clear q372); (try clear q373); (try clear q374); (try clear q375); (try clear q376); (try clear q377); (try clear q378); (try clear q379); (try clear q380)
                 obtain ⟨kq, x91_28, rfl, HA, HJ28, ⟨mc28, rfl⟩⟩ := hcut
                 cases kq with
                 | zero => exact absurd HA.out (by simp [gjson_validnumber.j3])
                 | succ kj28 =>
                  have H := HA.out
                  clear HA
                  simp only [gjson_validnumber.j3] at H
                  by_cases c34 : x91_28 = true
                  ·
                   subst c34
                   have H1 : (some ((wrap64 (x1_16 + 1)), false)) = some (r1, r2) := by rw [if_pos rfl] at H; exact H
                   clear H
                   have H := H1
                   clear H1
                   simp only [Option.some.injEq, Prod.mk.injEq] at H
                   obtain ⟨rfl, rfl⟩ := H
                   go_wp2
                   go_ret2
                   exact ⟨by first | rfl | (simp; done) | (simp only [← hji3] <;> (first | rfl | simp)) | (simp [*]; done), by repeat (first | exact Drawn0.refl _ | apply Drawn0.step)⟩
                  ·
                   replace c34 := Bool.eq_false_iff.mpr c34
                   subst c34
                   have H1 : (gjson_validnumber.l1 kj28 l0 (wrap64 ((wrap64 (x1_16 + 1)) + 1))) = some (r1, r2) := by rw [if_neg (show ¬ (false = true) by decide)] at H; exact H
                   clear H
                   have H := H1
                   clear H1
                   have H' := Aside0.mk H
                   clear H
                   go_wp2
                   try simp only [Act.put, List.setIfInBounds_toArray, List.set_cons_succ, List.set_cons_zero]
                   go_loopg [1] kj28 (fun kq v1 w' => ∃ (x1_4 : Int), v1 = .int .i64 x1_4 ∧ Aside0 (gjson_validnumber.l1 kq l0 x1_4 = some (r1, r2)) ∧ Aside0 (kq ≤ kj28) ∧ Drawn0 w w')
                   case atStart => exact ⟨(wrap64 ((wrap64 (x1_16 + 1)) + 1)), (by first | rfl | (simp; done) | (simp [*]; done) | (simp; rw [Bool.eq_iff_iff]; simp; done)), H', ⟨Nat.le_refl _⟩, by repeat (first | exact Drawn0.refl _ | apply Drawn0.step)⟩
                   case round =>
                    as_aux_lemma =>
                    clear H'
                    (try clear c1); (try clear c2); (try clear p2); (try clear c3); (try clear p3); (try clear q3); (try clear hx3); (try clear c4); (try clear c4b0); (try clear c5); (try clear c5b0); (try clear p6); (try clear c7); (try clear c7b0); (try clear c7b1); (try clear c8); (try clear c8b0); (try clear c8b1); (try clear c10); (try clear c10b0); (try clear c11); (try clear c11b0); (try clear c12); (try clear c12b0); (try clear c13); (try clear c13b0); (try clear c14); (try clear c14b0); (try clear c14b1); (try clear c15); (try clear c15b0); (try clear c16); (try clear c16b0); (try clear c18); (try clear c18b0); (try clear c18b1); (try clear c19); (try clear c19b0); (try clear c20); (try clear c20b0); (try clear c21); (try clear c21b0); (try clear c22); (try clear c22b0); (try clear c23); (try clear c23b0); (try clear c23b1); (try clear c24); (try clear c24b0); (try clear c25); (try clear c25b0); (try clear c27); (try clear c27b0); (try clear c27b1); (try clear c28); (try clear c28b0); (try clear c28b1); (try clear c31); (try clear c31b0); (try clear c32); (try clear c32b0); (try clear c33); (try clear c33b0); (try clear c34); (try clear hx372_0); (try clear hx373_0); (try clear hx374_0); (try clear hx375_0); (try clear hx376_0); (try clear hx377_0); (try clear hx378_0); (try clear hx379_0); (try clear hx380_0); (try clear p2); (try clear p3); (try clear p372); (try clear p373); (try clear p374); (try clear p375); (try clear p376); (try clear p377); (try clear p378); (try clear p379); (try clear p380); (try clear p6); (try clear q3); (try clear q372); (try clear q373); (try clear q374); (try clear q375); (try clear q376); (try clear q377); (try clear q378); (try clear q379); (try clear q380)
                    obtain ⟨x1_4, rfl, HA, HK4, ⟨m4, rfl⟩⟩ := hrel
                    cases gk with
                    | zero => exact absurd HA.out (by simp [gjson_validnumber.l1])
                    | succ k4 =>
                     have H := HA.out
                     clear HA
                     simp only [gjson_validnumber.l1] at H
                     by_cases c35 : x1_4 < (l0.length : Int)
                     ·
                      rw [if_pos c35] at H
                      have c35b0 : decide (x1_4 < (l0.length : Int)) = true := decide_eq_true c35
                      clear c35
                      by_cases c36 : 0 ≤ x1_4
                      ·
                       rw [if_pos c36] at H
                       have c36b0 : decide (0 ≤ x1_4) = true := decide_eq_true c36
                       clear c36
                       by_cases c37 : (rd l0 x1_4) ≥ 48
                       ·
                        rw [if_pos c37] at H
                        have c37b0 : decide (48 ≤ (rd l0 x1_4)) = true := decide_eq_true c37
                        clear c37
                        by_cases c38 : (rd l0 x1_4) ≤ 57
                        ·
                         rw [if_pos c38] at H
                         have c38b0 : decide ((rd l0 x1_4) ≤ 57) = true := decide_eq_true c38
                         clear c38
                         have H' := Aside0.mk H
                         clear H
                         have p381 : 0 ≤ (x1_4 : Int) := of_decide_eq_true (by first | (with_reducible assumption) | assumption)
                         have q381 : x1_4 < (l0.length : Int) := of_decide_eq_true (by first | (with_reducible assumption) | assumption)
                         obtain ⟨ad381, e381, hx381_0⟩ := Kd.at_int HR0.out x1_4 p381 q381
                         obtain rfl : ad372 = ad381 := (by injection e381)
                         replace p381 := eq_true p381
                         replace q381 := eq_true q381
                         have p382 : 0 ≤ (x1_4 : Int) := of_decide_eq_true (by first | (with_reducible assumption) | assumption)
                         have q382 : x1_4 < (l0.length : Int) := of_decide_eq_true (by first | (with_reducible assumption) | assumption)
                         obtain ⟨ad382, e382, hx382_0⟩ := Kd.at_int HR0.out x1_4 p382 q382
                         obtain rfl : ad372 = ad382 := (by injection e382)
                         replace p382 := eq_true p382
                         replace q382 := eq_true q382
                         go_wp2
                         go_roundg k4
                         case measure => have := HJ5.out; have := HJ16.out; have := HJ28.out; have := HK4.out; omega
                         case rel => exact ⟨(wrap64 (x1_4 + 1)), (by first | rfl | (simp; done) | (simp [*]; done) | (simp; rw [Bool.eq_iff_iff]; simp; done)), H', ⟨by have := HJ5.out; have := HJ16.out; have := HJ28.out; have := HK4.out; omega⟩, by repeat (first | exact Drawn0.refl _ | apply Drawn0.step)⟩
                        ·
                         rw [if_neg c38] at H
                         have c38b0 : decide ((rd l0 x1_4) ≤ 57) = false := decide_eq_false c38
                         clear c38
                         have H' := Aside0.mk H
                         clear H
                         have p381 : 0 ≤ (x1_4 : Int) := of_decide_eq_true (by first | (with_reducible assumption) | assumption)
                         have q381 : x1_4 < (l0.length : Int) := of_decide_eq_true (by first | (with_reducible assumption) | assumption)
                         obtain ⟨ad381, e381, hx381_0⟩ := Kd.at_int HR0.out x1_4 p381 q381
                         obtain rfl : ad372 = ad381 := (by injection e381)
                         replace p381 := eq_true p381
                         replace q381 := eq_true q381
                         have p382 : 0 ≤ (x1_4 : Int) := of_decide_eq_true (by first | (with_reducible assumption) | assumption)
                         have q382 : x1_4 < (l0.length : Int) := of_decide_eq_true (by first | (with_reducible assumption) | assumption)
                         obtain ⟨ad382, e382, hx382_0⟩ := Kd.at_int HR0.out x1_4 p382 q382
                         obtain rfl : ad372 = ad382 := (by injection e382)
                         replace p382 := eq_true p382
                         replace q382 := eq_true q382
                         go_wp2
                         go_meet
                         case rel => exact ⟨_, (x1_4), (by first | rfl | (simp; done) | (simp [*]; done) | (simp; rw [Bool.eq_iff_iff]; simp; done)), H', ⟨by have := HJ5.out; have := HJ16.out; have := HJ28.out; have := HK4.out; first | omega | exact Nat.le_refl _⟩, by repeat (first | exact Drawn0.refl _ | apply Drawn0.step)⟩
                       ·
                        rw [if_neg c37] at H
                        have c37b0 : decide (48 ≤ (rd l0 x1_4)) = false := decide_eq_false c37
                        clear c37
                        have H' := Aside0.mk H
                        clear H
                        have p381 : 0 ≤ (x1_4 : Int) := of_decide_eq_true (by first | (with_reducible assumption) | assumption)
                        have q381 : x1_4 < (l0.length : Int) := of_decide_eq_true (by first | (with_reducible assumption) | assumption)
                        obtain ⟨ad381, e381, hx381_0⟩ := Kd.at_int HR0.out x1_4 p381 q381
                        obtain rfl : ad372 = ad381 := (by injection e381)
                        replace p381 := eq_true p381
                        replace q381 := eq_true q381
                        go_wp2
                        go_meet
                        case rel => exact ⟨_, (x1_4), (by first | rfl | (simp; done) | (simp [*]; done) | (simp; rw [Bool.eq_iff_iff]; simp; done)), H', ⟨by have := HJ5.out; have := HJ16.out; have := HJ28.out; have := HK4.out; first | omega | exact Nat.le_refl _⟩, by repeat (first | exact Drawn0.refl _ | apply Drawn0.step)⟩
                      ·
                       rw [if_neg c36] at H
                       exact absurd H (by simp)
                     ·
                      rw [if_neg c35] at H
                      have c35b0 : decide (x1_4 < (l0.length : Int)) = false := decide_eq_false c35
                      clear c35
                      have H' := Aside0.mk H
                      clear H
                      go_wp2
                      go_meet
                      case rel => exact ⟨_, (x1_4), (by first | rfl | (simp; done) | (simp [*]; done) | (simp; rw [Bool.eq_iff_iff]; simp; done)), H', ⟨by have := HJ5.out; have := HJ16.out; have := HJ28.out; have := HK4.out; first | omega | exact Nat.le_refl _⟩, by repeat (first | exact Drawn0.refl _ | apply Drawn0.step)⟩
              ·
               rw [if_neg c27] at H
               have c27b0 : ((rd l0 x1_16) == 46) = false := beq_eq_false_iff_ne.mpr c27
               have c27b1 : ((rd l0 x1_16) != 46) = true := bne_iff_ne.mpr c27
               (first | rw [c27b0] | (simp only [i64_w, i32_w]; rw [c27b0]) | skip)
               have H' := Aside0.mk H
               clear H
               go_wp2
               go_meet
               case rel => exact ⟨_, (x1_16), (by first | rfl | (simp; done) | (simp [*]; done) | (simp; rw [Bool.eq_iff_iff]; simp; done)), H', ⟨by have := HJ5.out; have := HJ16.out; first | omega | exact Nat.le_refl _⟩, by repeat (first | exact Drawn0.refl _ | apply Drawn0.step)⟩
             case rest =>
              as_aux_lemma =>
              clear HC26
              (try clear c1); (try clear c2); (try clear p2); (try clear c3); (try clear p3); (try clear q3); (try clear hx3); (try clear c4); (try clear c4b0); (try clear c5); (try clear c5b0); (try clear p6); (try clear c7); (try clear c7b0); (try clear c7b1); (try clear c8); (try clear c8b0); (try clear c8b1); (try clear c10); (try clear c10b0); (try clear c11); (try clear c11b0); (try clear c12); (try clear c12b0); (try clear c13); (try clear c13b0); (try clear c14); (try clear c14b0); (try clear c14b1); (try clear c15); (try clear c15b0); (try clear c16); (try clear c16b0); (try clear c18); (try clear c18b0); (try clear c18b1); (try clear c19); (try clear c19b0); (try clear c20); (try clear c20b0); (try clear c21); (try clear c21b0); (try clear c22); (try clear c22b0); (try clear c23); (try clear c23b0); (try clear c23b1); (try clear c24); (try clear c24b0); (try clear c25); (try clear c25b0); (try clear c27); (try clear c27b0); (try clear c27b1); (try clear c28); (try clear c28b0); (try clear c28b1); (try clear c31); (try clear c31b0); (try clear c32); (try clear c32b0); (try clear c33); (try clear c33b0); (try clear c34); (try clear c35); (try clear c35b0); (try clear c36); (try clear c36b0); (try clear c37); (try clear c37b0); (try clear p37); (try clear q37); (try clear hx37); (try clear c38); (try clear c38b0); (try clear p38); (try clear q38); (try clear hx38); (try clear hx372_0); (try clear hx373_0); (try clear hx374_0); (try clear hx375_0); (try clear hx376_0); (try clear hx377_0); (try clear hx378_0); (try clear hx379_0); (try clear hx380_0); (try clear hx381_0); (try clear hx382_0); (try clear p2); (try clear p3); (try clear p372); (try clear p373); (try clear p374); (try clear p375); (try clear p376); (try clear p377); (try clear p378); (try clear p379); (try clear p380); (try clear p381); (try clear p382); (try clear p6); (try clear q3); (try clear q372); (try clear q373); (try clear q374); (try clear q375); (try clear q376); (try clear q377); (try clear q378); (try clear q379); (try clear q380); (try clear q381); (try clear q382)
              obtain ⟨kq, x1_25, rfl, HA, HJ25, ⟨mc25, rfl⟩⟩ := hcut
              cases kq with
              | zero => exact absurd HA.out (by simp [gjson_validnumber.j5])
              | succ kj25 =>
               have H := HA.out
               clear HA
               simp only [gjson_validnumber.j5] at H
               by_cases c39 : x1_25 = (l0.length : Int)
               ·
                rw [if_pos c39] at H
                have c39b0 : (x1_25 == (l0.length : Int)) = true := beq_iff_eq.mpr c39
                have c39b1 : (x1_25 != (l0.length : Int)) = false := bne_eq_false_iff_eq.mpr c39
                clear c39
                simp only [Option.some.injEq, Prod.mk.injEq] at H
                obtain ⟨rfl, rfl⟩ := H
                go_wp2
                go_ret2
                exact ⟨by first | rfl | (simp; done) | (simp only [← hji3] <;> (first | rfl | simp)) | (simp [*]; done), by repeat (first | exact Drawn0.refl _ | apply Drawn0.step)⟩
               ·
                rw [if_neg c39] at H
                have c39b0 : (x1_25 == (l0.length : Int)) = false := beq_eq_false_iff_ne.mpr c39
                have c39b1 : (x1_25 != (l0.length : Int)) = true := bne_iff_ne.mpr c39
                have HC40 := Aside0.mk H
                clear H
                go_upto_region 29 with (fail)
                go_cut [129] (fun v129 wc => ∃ (kq : Nat) (x129_39 : Bool), v129 = .bool x129_39 ∧ Aside0 (gjson_validnumber.j6 kq l0 x1_25 x129_39 = some (r1, r2)) ∧ Aside0 (kq ≤ kj25) ∧ Drawn0 w wc)
                case first =>
                 as_aux_lemma =>
                 have H := HC40.out
                 clear HC40
                 by_cases c41 : 0 ≤ x1_25
                 ·
                  rw [if_pos c41] at H
                  have c41b0 : decide (0 ≤ x1_25) = true := decide_eq_true c41
                  clear c41
                  (first | rw [c41b0] | (simp only [i64_w, i32_w]; rw [c41b0]) | skip)
                  by_cases c42 : x1_25 < (l0.length : Int)
                  ·
                   rw [if_pos c42] at H
                   have c42b0 : decide (x1_25 < (l0.length : Int)) = true := decide_eq_true c42
                   clear c42
                   by_cases c43 : (rd l0 x1_25) = 101
                   ·
                    rw [if_pos c43] at H
                    have c43b0 : ((rd l0 x1_25) == 101) = true := beq_iff_eq.mpr c43
                    have c43b1 : ((rd l0 x1_25) != 101) = false := bne_eq_false_iff_eq.mpr c43
                    clear c43
                    have H' := Aside0.mk H
                    clear H
                    have p383 : 0 ≤ (x1_25 : Int) := of_decide_eq_true (by first | (with_reducible assumption) | assumption)
                    have q383 : x1_25 < (l0.length : Int) := of_decide_eq_true (by first | (with_reducible assumption) | assumption)
                    obtain ⟨ad383, e383, hx383_0⟩ := Kd.at_int HR0.out x1_25 p383 q383
                    obtain rfl : ad372 = ad383 := (by injection e383)
                    replace p383 := eq_true p383
                    replace q383 := eq_true q383
                    go_wp2
                    go_meet
                    case rel => exact ⟨_, (true), (by first | rfl | (simp; done) | (simp [*]; done) | (simp; rw [Bool.eq_iff_iff]; simp; done)), H', ⟨by have := HJ5.out; have := HJ16.out; have := HJ25.out; first | omega | exact Nat.le_refl _⟩, by repeat (first | exact Drawn0.refl _ | apply Drawn0.step)⟩
                   ·
                    rw [if_neg c43] at H
                    have c43b0 : ((rd l0 x1_25) == 101) = false := beq_eq_false_iff_ne.mpr c43
                    have c43b1 : ((rd l0 x1_25) != 101) = true := bne_iff_ne.mpr c43
                    have H' := Aside0.mk H
                    clear H
                    have p383 : 0 ≤ (x1_25 : Int) := of_decide_eq_true (by first | (with_reducible assumption) | assumption)
                    have q383 : x1_25 < (l0.length : Int) := of_decide_eq_true (by first | (with_reducible assumption) | assumption)
                    obtain ⟨ad383, e383, hx383_0⟩ := Kd.at_int HR0.out x1_25 p383 q383
                    obtain rfl : ad372 = ad383 := (by injection e383)
                    replace p383 := eq_true p383
                    replace q383 := eq_true q383
                    have p384 : 0 ≤ (x1_25 : Int) := of_decide_eq_true (by first | (with_reducible assumption) | assumption)
                    have q384 : x1_25 < (l0.length : Int) := of_decide_eq_true (by first | (with_reducible assumption) | assumption)
                    obtain ⟨ad384, e384, hx384_0⟩ := Kd.at_int HR0.out x1_25 p384 q384
                    obtain rfl : ad372 = ad384 := (by injection e384)
                    replace p384 := eq_true p384
                    replace q384 := eq_true q384
                    go_wp2
                    go_meet
                    case rel => exact ⟨_, (((rd l0 x1_25) == 69)), (by first | rfl | (simp; done) | (simp [*]; done) | (simp; rw [Bool.eq_iff_iff]; simp; done)), H', ⟨by have := HJ5.out; have := HJ16.out; have := HJ25.out; first | omega | exact Nat.le_refl _⟩, by repeat (first | exact Drawn0.refl _ | apply Drawn0.step)⟩
                  ·
                   rw [if_neg c42] at H
                   exact absurd H (by simp)
                 ·
                  rw [if_neg c41] at H
                  exact absurd H (by simp)
                case rest =>
                 as_aux_lemma =>
                 clear HC40
                 (try clear c1); (try clear c2); (try clear p2); (try clear c3); (try clear p3); (try clear q3); (try clear hx3); (try clear c4); (try clear c4b0); (try clear c5); (try clear c5b0); (try clear p6); (try clear c7); (try clear c7b0); (try clear c7b1); (try clear c8); (try clear c8b0); (try clear c8b1); (try clear c10); (try clear c10b0); (try clear c11); (try clear c11b0); (try clear c12); (try clear c12b0); (try clear c13); (try clear c13b0); (try clear c14); (try clear c14b0); (try clear c14b1); (try clear c15); (try clear c15b0); (try clear c16); (try clear c16b0); (try clear c18); (try clear c18b0); (try clear c18b1); (try clear c19); (try clear c19b0); (try clear c20); (try clear c20b0); (try clear c21); (try clear c21b0); (try clear c22); (try clear c22b0); (try clear c23); (try clear c23b0); (try clear c23b1); (try clear c24); (try clear c24b0); (try clear c25); (try clear c25b0); (try clear c27); (try clear c27b0); (try clear c27b1); (try clear c28); (try clear c28b0); (try clear c28b1); (try clear c31); (try clear c31b0); (try clear c32); (try clear c32b0); (try clear c33); (try clear c33b0); (try clear c34); (try clear c35); (try clear c35b0); (try clear c36); (try clear c36b0); (try clear c37); (try clear c37b0); (try clear p37); (try clear q37); (try clear hx37); (try clear c38); (try clear c38b0); (try clear p38); (try clear q38); (try clear hx38); (try clear c39); (try clear c39b0); (try clear c39b1); (try clear c41); (try clear c41b0); (try clear c42); (try clear c42b0); (try clear c43); (try clear c43b0); (try clear c43b1); (try clear hx372_0); (try clear hx373_0); (try clear hx374_0); (try clear hx375_0); (try clear hx376_0); (try clear hx377_0); (try clear hx378_0); (try clear hx379_0); (try clear hx380_0); (try clear hx381_0); (try clear hx382_0); (try clear hx383_0); (try clear hx384_0); (try clear p2); (try clear p3); (try clear p37); (try clear p372); (try clear p373); (try clear p374); (try clear p375); (try clear p376); (try clear p377); (try clear p378); (try clear p379); (try clear p38); (try clear p380); (try clear p381); (try clear p382); (try clear p383); (try clear p384); (try clear p6); (try clear q3); (try clear q37); (try clear q372); (try clear q373); (try clear q374); (try clear q375); (try clear q376); (try clear q377); (try clear q378); (try clear q379); (try clear q38); (try clear q380); (try clear q381); (try clear q382); (try clear q383); (try clear q384)
                 obtain ⟨kq, x129_39, rfl, HA, HJ39, ⟨mc39, rfl⟩⟩ := hcut
                 cases kq with
                 | zero => exact absurd HA.out (by simp [gjson_validnumber.j6])
                 | succ kj39 =>
                  have H := HA.out
                  clear HA
                  simp only [gjson_validnumber.j6] at H
                  by_cases c44 : x129_39 = true
                  ·
                   subst c44
                   have H1 : (if (wrap64 (x1_25 + 1)) = (l0.length : Int) then (some (wrap64 (x1_25 + 1), false)) else (if 0 ≤ (wrap64 (x1_25 + 1)) then (if (wrap64 (x1_25 + 1)) < (l0.length : Int) then (if (rd l0 (wrap64 (x1_25 + 1))) = 43 then (gjson_validnumber.j7 kj39 l0 (wrap64 (x1_25 + 1)) true) else (gjson_validnumber.j7 kj39 l0 (wrap64 (x1_25 + 1)) ((rd l0 (wrap64 (x1_25 + 1))) == 45))) else (none)) else (none))) = some (r1, r2) := by rw [if_pos rfl] at H; exact H
                   clear H
                   have H := H1
                   clear H1
                   by_cases c45 : (wrap64 (x1_25 + 1)) = (l0.length : Int)
                   ·
                    rw [if_pos c45] at H
                    have c45b0 : ((wrap64 (x1_25 + 1)) == (l0.length : Int)) = true := beq_iff_eq.mpr c45
                    have c45b1 : ((wrap64 (x1_25 + 1)) != (l0.length : Int)) = false := bne_eq_false_iff_eq.mpr c45
                    clear c45
                    simp only [Option.some.injEq, Prod.mk.injEq] at H
                    obtain ⟨rfl, rfl⟩ := H
                    go_wp2
                    go_ret2
                    exact ⟨by first | rfl | (simp; done) | (simp only [← hji3] <;> (first | rfl | simp)) | (simp [*]; done), by repeat (first | exact Drawn0.refl _ | apply Drawn0.step)⟩
                   ·
                    rw [if_neg c45] at H
                    have c45b0 : ((wrap64 (x1_25 + 1)) == (l0.length : Int)) = false := beq_eq_false_iff_ne.mpr c45
                    have c45b1 : ((wrap64 (x1_25 + 1)) != (l0.length : Int)) = true := bne_iff_ne.mpr c45
                    have HC46 := Aside0.mk H
                    clear H
                    go_upto_region 33 with (fail)
                    go_cut [148] (fun v148 wc => ∃ (kq : Nat) (x148_45 : Bool), v148 = .bool x148_45 ∧ Aside0 (gjson_validnumber.j7 kq l0 (wrap64 (x1_25 + 1)) x148_45 = some (r1, r2)) ∧ Aside0 (kq ≤ kj39) ∧ Drawn0 w wc)
                    case first =>
                     as_aux_lemma =>
                     have H := HC46.out
                     clear HC46
                     obtain ⟨ji47, hji47⟩ : ∃ j_ : Int, (wrap64 (x1_25 + 1)) = j_ := ⟨_, rfl⟩
                     replace H : (if 0 ≤ (ji47) then (if (ji47) < (l0.length : Int) then (if (rd l0 (ji47)) = 43 then (gjson_validnumber.j7 kj39 l0 ji47 true) else (gjson_validnumber.j7 kj39 l0 ji47 ((rd l0 (ji47)) == 45))) else (none)) else (none)) = some (r1, r2) := by first | (rw [hji47] at H; exact H) | (simp only [hji47] at H ⊢; exact H)
                     (try rw [hji47] at c45b0)
                     (try rw [hji47] at c45b1)
                     have hji47w : (IntKind.i64.wrap (x1_25 + 1)) = ji47 := (i64_w _).trans hji47
                     by_cases c48 : 0 ≤ (ji47)
                     ·
                      rw [if_pos c48] at H
                      have c48b0 : decide (0 ≤ (ji47)) = true := decide_eq_true c48
                      clear c48
                      (first | rw [c48b0] | (simp only [i64_w, i32_w]; rw [c48b0]) | skip)
                      by_cases c49 : (ji47) < (l0.length : Int)
                      ·
                       rw [if_pos c49] at H
                       have c49b0 : decide ((ji47) < (l0.length : Int)) = true := decide_eq_true c49
                       clear c49
                       by_cases c50 : (rd l0 (ji47)) = 43
                       ·
                        rw [if_pos c50] at H
                        have c50b0 : ((rd l0 (ji47)) == 43) = true := beq_iff_eq.mpr c50
                        have c50b1 : ((rd l0 (ji47)) != 43) = false := bne_eq_false_iff_eq.mpr c50
                        clear c50
                        have H' := Aside0.mk H
                        clear H
                        have p385 : 0 ≤ ((ji47) : Int) := of_decide_eq_true (by first | (with_reducible assumption) | assumption)
                        have q385 : (ji47) < (l0.length : Int) := of_decide_eq_true (by first | (with_reducible assumption) | assumption)
                        obtain ⟨ad385, e385, hx385_0⟩ := Kd.at_int HR0.out (ji47) p385 q385
                        obtain rfl : ad372 = ad385 := (by injection e385)
                        replace p385 := eq_true p385
                        replace q385 := eq_true q385
                        go_wp2
                        subst hji47
                        go_meet
                        case rel => exact ⟨_, (true), (by first | rfl | (simp; done) | (simp [*]; done) | (simp; rw [Bool.eq_iff_iff]; simp; done)), H', ⟨by have := HJ5.out; have := HJ16.out; have := HJ25.out; have := HJ39.out; first | omega | exact Nat.le_refl _⟩, by repeat (first | exact Drawn0.refl _ | apply Drawn0.step)⟩
                       ·
                        rw [if_neg c50] at H
                        have c50b0 : ((rd l0 (ji47)) == 43) = false := beq_eq_false_iff_ne.mpr c50
                        have c50b1 : ((rd l0 (ji47)) != 43) = true := bne_iff_ne.mpr c50
                        have H' := Aside0.mk H
                        clear H
                        have p385 : 0 ≤ ((ji47) : Int) := of_decide_eq_true (by first | (with_reducible assumption) | assumption)
                        have q385 : (ji47) < (l0.length : Int) := of_decide_eq_true (by first | (with_reducible assumption) | assumption)
                        obtain ⟨ad385, e385, hx385_0⟩ := Kd.at_int HR0.out (ji47) p385 q385
                        obtain rfl : ad372 = ad385 := (by injection e385)
                        replace p385 := eq_true p385
                        replace q385 := eq_true q385
                        have p386 : 0 ≤ ((ji47) : Int) := of_decide_eq_true (by first | (with_reducible assumption) | assumption)
                        have q386 : (ji47) < (l0.length : Int) := of_decide_eq_true (by first | (with_reducible assumption) | assumption)
                        obtain ⟨ad386, e386, hx386_0⟩ := Kd.at_int HR0.out (ji47) p386 q386
                        obtain rfl : ad372 = ad386 := (by injection e386)
                        replace p386 := eq_true p386
                        replace q386 := eq_true q386
                        go_wp2
                        subst hji47
                        go_meet
                        case rel => exact ⟨_, (((rd l0 (wrap64 (x1_25 + 1))) == 45)), (by first | rfl | (simp; done) | (simp only [← hji47] <;> (first | rfl | simp)) | (simp [*]; done)), H', ⟨by have := HJ5.out; have := HJ16.out; have := HJ25.out; have := HJ39.out; first | omega | exact Nat.le_refl _⟩, by repeat (first | exact Drawn0.refl _ | apply Drawn0.step)⟩
                      ·
                       rw [if_neg c49] at H
                       exact absurd H (by simp)
                     ·
                      rw [if_neg c48] at H
                      exact absurd H (by simp)
                    case rest =>
                     as_aux_lemma =>
                     clear HC46
                     (try clear c1); (try clear c2); (try clear p2); (try clear c3); (try clear p3); (try clear q3); (try clear hx3); (try clear c4); (try clear c4b0); (try clear c5); (try clear c5b0); (try clear p6); (try clear c7); (try clear c7b0); (try clear c7b1); (try clear c8); (try clear c8b0); (try clear c8b1); (try clear c10); (try clear c10b0); (try clear c11); (try clear c11b0); (try clear c12); (try clear c12b0); (try clear c13); (try clear c13b0); (try clear c14); (try clear c14b0); (try clear c14b1); (try clear c15); (try clear c15b0); (try clear c16); (try clear c16b0); (try clear c18); (try clear c18b0); (try clear c18b1); (try clear c19); (try clear c19b0); (try clear c20); (try clear c20b0); (try clear c21); (try clear c21b0); (try clear c22); (try clear c22b0); (try clear c23); (try clear c23b0); (try clear c23b1); (try clear c24); (try clear c24b0); (try clear c25); (try clear c25b0); (try clear c27); (try clear c27b0); (try clear c27b1); (try clear c28); (try clear c28b0); (try clear c28b1); (try clear c31); (try clear c31b0); (try clear c32); (try clear c32b0); (try clear c33); (try clear c33b0); (try clear c34); (try clear c35); (try clear c35b0); (try clear c36); (try clear c36b0); (try clear c37); (try clear c37b0); (try clear p37); (try clear q37); (try clear hx37); (try clear c38); (try clear c38b0); (try clear p38); (try clear q38); (try clear hx38); (try clear c39); (try clear c39b0); (try clear c39b1); (try clear c41); (try clear c41b0); (try clear c42); (try clear c42b0); (try clear c43); (try clear c43b0); (try clear c43b1); (try clear c44); (try clear c45); (try clear c45b0); (try clear c45b1); (try clear c48); (try clear c48b0); (try clear c49); (try clear c49b0); (try clear c50); (try clear c50b0); (try clear c50b1); (try clear hx372_0); (try clear hx373_0); (try clear hx374_0); (try clear hx375_0); (try clear hx376_0); (try clear hx377_0); (try clear hx378_0); (try clear hx379_0); (try clear hx380_0); (try clear hx381_0); (try clear hx382_0); (try clear hx383_0); (try clear hx384_0); (try clear hx385_0); (try clear hx386_0); (try clear p2); (try clear p3); (try clear p37); (try clear p372); (try clear p373); (try clear p374); (try clear p375); (try clear p376); (try clear p377); (try clear p378); (try clear p379); (try clear p38); (try clear p380); (try clear p381); (try clear p382); (try clear p383); (try clear p384); (try clear p385); (try clear p386); (try clear p6); (try clear q3); (try clear q37); (try clear q372); (try clear q373); (try clear q374); (try clear q375); (try clear q376); (try clear q377); (try clear q378); (try clear q379); (try clear q38); (try clear q380); (try clear q381); (try clear q382); (try clear q383); (try clear q384); (try clear q385); (try clear q386)
                     obtain ⟨kq, x148_45, rfl, HA, HJ45, ⟨mc45, rfl⟩⟩ := hcut
                     cases kq with
                     | zero => exact absurd HA.out (by simp [gjson_validnumber.j7])
                     | succ kj45 =>
                      have H := HA.out
                      clear HA
                      simp only [gjson_validnumber.j7] at H
                      have HC51 := Aside0.mk H
                      clear H
                      go_upto_if 148 with (fail)
                      go_cut [1] (fun v1 wc => ∃ (kq : Nat) (x1_50 : Int), v1 = .int .i64 x1_50 ∧ Aside0 (gjson_validnumber.j8 kq l0 x1_50 = some (r1, r2)) ∧ Aside0 (kq ≤ kj45) ∧ Drawn0 w wc)
                      case first =>
                       as_aux_lemma =>
                       have H := HC51.out
                       clear HC51
                       by_cases c52 : x148_45 = true
                       ·
                        subst c52
                        have H1 : (gjson_validnumber.j8 kj45 l0 (wrap64 ((wrap64 (x1_25 + 1)) + 1))) = some (r1, r2) := by rw [if_pos rfl] at H; exact H
                        clear H
                        have H := H1
                        clear H1
                        have H' := Aside0.mk H
                        clear H
                        go_wp2
                        go_meet
                        case rel => exact ⟨_, (wrap64 ((wrap64 (x1_25 + 1)) + 1)), (by first | rfl | (simp; done) | (simp [*]; done) | (simp; rw [Bool.eq_iff_iff]; simp; done)), H', ⟨by have := HJ5.out; have := HJ16.out; have := HJ25.out; have := HJ39.out; have := HJ45.out; first | omega | exact Nat.le_refl _⟩, by repeat (first | exact Drawn0.refl _ | apply Drawn0.step)⟩
                       ·
                        replace c52 := Bool.eq_false_iff.mpr c52
                        subst c52
                        have H1 : (gjson_validnumber.j8 kj45 l0 (wrap64 (x1_25 + 1))) = some (r1, r2) := by rw [if_neg (show ¬ (false = true) by decide)] at H; exact H
                        clear H
                        have H := H1
                        clear H1
                        have H' := Aside0.mk H
                        clear H
                        go_wp2
                        go_meet
                        case rel => exact ⟨_, ((wrap64 (x1_25 + 1))), (by first | rfl | (simp; done) | (simp [*]; done) | (simp; rw [Bool.eq_iff_iff]; simp; done)), H', ⟨by have := HJ5.out; have := HJ16.out; have := HJ25.out; have := HJ39.out; have := HJ45.out; first | omega | exact Nat.le_refl _⟩, by repeat (first | exact Drawn0.refl _ | apply Drawn0.step)⟩
                      case rest =>
                       as_aux_lemma =>
                       clear HC51
                       (try clear c1); (try clear c2); (try clear p2); (try clear c3); (try clear p3); (try clear q3); (try clear hx3); (try clear c4); (try clear c4b0); (try clear c5); (try clear c5b0); (try clear p6); (try clear c7); (try clear c7b0); (try clear c7b1); (try clear c8); (try clear c8b0); (try clear c8b1); (try clear c10); (try clear c10b0); (try clear c11); (try clear c11b0); (try clear c12); (try clear c12b0); (try clear c13); (try clear c13b0); (try clear c14); (try clear c14b0); (try clear c14b1); (try clear c15); (try clear c15b0); (try clear c16); (try clear c16b0); (try clear c18); (try clear c18b0); (try clear c18b1); (try clear c19); (try clear c19b0); (try clear c20); (try clear c20b0); (try clear c21); (try clear c21b0); (try clear c22); (try clear c22b0); (try clear c23); (try clear c23b0); (try clear c23b1); (try clear c24); (try clear c24b0); (try clear c25); (try clear c25b0); (try clear c27); (try clear c27b0); (try clear c27b1); (try clear c28); (try clear c28b0); (try clear c28b1); (try clear c31); (try clear c31b0); (try clear c32); (try clear c32b0); (try clear c33); (try clear c33b0); (try clear c34); (try clear c35); (try clear c35b0); (try clear c36); (try clear c36b0); (try clear c37); (try clear c37b0); (try clear p37); (try clear q37); (try clear hx37); (try clear c38); (try clear c38b0); (try clear p38); (try clear q38); (try clear hx38); (try clear c39); (try clear c39b0); (try clear c39b1); (try clear c41); (try clear c41b0); (try clear c42); (try clear c42b0); (try clear c43); (try clear c43b0); (try clear c43b1); (try clear c44); (try clear c45); (try clear c45b0); (try clear c45b1); (try clear c48); (try clear c48b0); (try clear c49); (try clear c49b0); (try clear c50); (try clear c50b0); (try clear c50b1); (try clear c52); (try clear hx372_0); (try clear hx373_0); (try clear hx374_0); (try clear hx375_0); (try clear hx376_0); (try clear hx377_0); (try clear hx378_0); (try clear hx379_0); (try clear hx380_0); (try clear hx381_0); (try clear hx382_0); (try clear hx383_0); (try clear hx384_0); (try clear hx385_0); (try clear hx386_0); (try clear p2); (try clear p3); (try clear p37); (try clear p372); (try clear p373); (try clear p374); (try clear p375); (try clear p376); (try clear p377); (try clear p378); (try clear p379); (try clear p38); (try clear p380); (try clear p381); (try clear p382); (try clear p383); (try clear p384); (try clear p385); (try clear p386); (try clear p6); (try clear q3); (try clear q37); (try clear q372); (try clear q373); (try clear q374); (try clear q375); (try clear q376); (try clear q377); (try clear q378); (try clear q379); (try clear q38); (try clear q380); (try clear q381); (try clear q382); (try clear q383); (try clear q384); (try clear q385); (try clear q386)
                       obtain ⟨kq, x1_50, rfl, HA, HJ50, ⟨mc50, rfl⟩⟩ := hcut
                       cases kq with
                       | zero => exact absurd HA.out (by simp [gjson_validnumber.j8])
                       | succ kj50 =>
                        have H := HA.out
                        clear HA
                        simp only [gjson_validnumber.j8] at H
                        by_cases c53 : x1_50 = (l0.length : Int)
                        ·
                         rw [if_pos c53] at H
                         have c53b0 : (x1_50 == (l0.length : Int)) = true := beq_iff_eq.mpr c53
                         have c53b1 : (x1_50 != (l0.length : Int)) = false := bne_eq_false_iff_eq.mpr c53
                         clear c53
                         simp only [Option.some.injEq, Prod.mk.injEq] at H
                         obtain ⟨rfl, rfl⟩ := H
                         go_wp2
                         go_ret2
                         exact ⟨by first | rfl | (simp; done) | (simp only [← hji3] <;> (first | rfl | simp)) | (simp [*]; done), by repeat (first | exact Drawn0.refl _ | apply Drawn0.step)⟩
                        ·
                         rw [if_neg c53] at H
                         have c53b0 : (x1_50 == (l0.length : Int)) = false := beq_eq_false_iff_ne.mpr c53
                         have c53b1 : (x1_50 != (l0.length : Int)) = true := bne_iff_ne.mpr c53
                         have HC54 := Aside0.mk H
                         clear H
                         go_upto_region 37 with (fail)
                         go_cut [167] (fun v167 wc => ∃ (kq : Nat) (x167_53 : Bool), v167 = .bool x167_53 ∧ Aside0 (gjson_validnumber.j9 kq l0 x1_50 x167_53 = some (r1, r2)) ∧ Aside0 (kq ≤ kj50) ∧ Drawn0 w wc)
                         case first =>
                          as_aux_lemma =>
                          have H := HC54.out
                          clear HC54
                          by_cases c55 : 0 ≤ x1_50
                          ·
                           rw [if_pos c55] at H
                           have c55b0 : decide (0 ≤ x1_50) = true := decide_eq_true c55
                           clear c55
                           (first | rw [c55b0] | (simp only [i64_w, i32_w]; rw [c55b0]) | skip)
                           by_cases c56 : x1_50 < (l0.length : Int)
                           ·
                            rw [if_pos c56] at H
                            have c56b0 : decide (x1_50 < (l0.length : Int)) = true := decide_eq_true c56
                            clear c56
                            by_cases c57 : (rd l0 x1_50) < 48
                            ·
                             rw [if_pos c57] at H
                             have c57b0 : decide ((rd l0 x1_50) < 48) = true := decide_eq_true c57
                             clear c57
                             have H' := Aside0.mk H
                             clear H
                             have p387 : 0 ≤ (x1_50 : Int) := of_decide_eq_true (by first | (with_reducible assumption) | assumption)
                             have q387 : x1_50 < (l0.length : Int) := of_decide_eq_true (by first | (with_reducible assumption) | assumption)
                             obtain ⟨ad387, e387, hx387_0⟩ := Kd.at_int HR0.out x1_50 p387 q387
                             obtain rfl : ad372 = ad387 := (by injection e387)
                             replace p387 := eq_true p387
                             replace q387 := eq_true q387
                             go_wp2
                             go_meet
                             case rel => exact ⟨_, (true), (by first | rfl | (simp; done) | (simp [*]; done) | (simp; rw [Bool.eq_iff_iff]; simp; done)), H', ⟨by have := HJ5.out; have := HJ16.out; have := HJ25.out; have := HJ39.out; have := HJ45.out; have := HJ50.out; first | omega | exact Nat.le_refl _⟩, by repeat (first | exact Drawn0.refl _ | apply Drawn0.step)⟩
                            ·
                             rw [if_neg c57] at H
                             have c57b0 : decide ((rd l0 x1_50) < 48) = false := decide_eq_false c57
                             clear c57
                             have H' := Aside0.mk H
                             clear H
                             have p387 : 0 ≤ (x1_50 : Int) := of_decide_eq_true (by first | (with_reducible assumption) | assumption)
                             have q387 : x1_50 < (l0.length : Int) := of_decide_eq_true (by first | (with_reducible assumption) | assumption)
                             obtain ⟨ad387, e387, hx387_0⟩ := Kd.at_int HR0.out x1_50 p387 q387
                             obtain rfl : ad372 = ad387 := (by injection e387)
                             replace p387 := eq_true p387
                             replace q387 := eq_true q387
                             have p388 : 0 ≤ (x1_50 : Int) := of_decide_eq_true (by first | (with_reducible assumption) | assumption)
                             have q388 : x1_50 < (l0.length : Int) := of_decide_eq_true (by first | (with_reducible assumption) | assumption)
                             obtain ⟨ad388, e388, hx388_0⟩ := Kd.at_int HR0.out x1_50 p388 q388
                             obtain rfl : ad372 = ad388 := (by injection e388)
                             replace p388 := eq_true p388
                             replace q388 := eq_true q388
                             go_wp2
                             go_meet
                             case rel => exact ⟨_, (decide ((rd l0 x1_50) > 57)), (by first | rfl | (simp; done) | (simp [*]; done) | (simp; rw [Bool.eq_iff_iff]; simp; done)), H', ⟨by have := HJ5.out; have := HJ16.out; have := HJ25.out; have := HJ39.out; have := HJ45.out; have := HJ50.out; first | omega | exact Nat.le_refl _⟩, by repeat (first | exact Drawn0.refl _ | apply Drawn0.step)⟩
                           ·
                            rw [if_neg c56] at H
                            exact absurd H (by simp)
                          ·
                           rw [if_neg c55] at H
                           exact absurd H (by simp)
                         case rest =>
                          as_aux_lemma =>
                          clear HC54
                          (try clear c1); (try clear c2); (try clear p2); (try clear c3); (try clear p3); (try clear q3); (try clear hx3); (try clear c4); (try clear c4b0); (try clear c5); (try clear c5b0); (try clear p6); (try clear c7); (try clear c7b0); (try clear c7b1); (try clear c8); (try clear c8b0); (try clear c8b1); (try clear c10); (try clear c10b0); (try clear c11); (try clear c11b0); (try clear c12); (try clear c12b0); (try clear c13); (try clear c13b0); (try clear c14); (try clear c14b0); (try clear c14b1); (try clear c15); (try clear c15b0); (try clear c16); (try clear c16b0); (try clear c18); (try clear c18b0); (try clear c18b1); (try clear c19); (try clear c19b0); (try clear c20); (try clear c20b0); (try clear c21); (try clear c21b0); (try clear c22); (try clear c22b0); (try clear c23); (try clear c23b0); (try clear c23b1); (try clear c24); (try clear c24b0); (try clear c25); (try clear c25b0); (try clear c27); (try clear c27b0); (try clear c27b1); (try clear c28); (try clear c28b0); (try clear c28b1); (try clear c31); (try clear c31b0); (try clear c32); (try clear c32b0); (try clear c33); (try clear c33b0); (try clear c34); (try clear c35); (try clear c35b0); (try clear c36); (try clear c36b0); (try clear c37); (try clear c37b0); (try clear p37); (try clear q37); (try clear hx37); (try clear c38); (try clear c38b0); (try clear p38); (try clear q38); (try clear hx38); (try clear c39); (try clear c39b0); (try clear c39b1); (try clear c41); (try clear c41b0); (try clear c42); (try clear c42b0); (try clear c43); (try clear c43b0); (try clear c43b1); (try clear c44); (try clear c45); (try clear c45b0); (try clear c45b1); (try clear c48); (try clear c48b0); (try clear c49); (try clear c49b0); (try clear c50); (try clear c50b0); (try clear c50b1); (try clear c52); (try clear c53); (try clear c53b0); (try clear c53b1); (try clear c55); (try clear c55b0); (try clear c56); (try clear c56b0); (try clear c57); (try clear c57b0); (try clear hx372_0); (try clear hx373_0); (try clear hx374_0); (try clear hx375_0); (try clear hx376_0); (try clear hx377_0); (try clear hx378_0); (try clear hx379_0); (try clear hx380_0); (try clear hx381_0); (try clear hx382_0); (try clear hx383_0); (try clear hx384_0); (try clear hx385_0); (try clear hx386_0); (try clear hx387_0); (try clear hx388_0); (try clear p2); (try clear p3); (try clear p37); (try clear p372); (try clear p373); (try clear p374); (try clear p375); (try clear p376); (try clear p377); (try clear p378); (try clear p379); (try clear p38); (try clear p380); (try clear p381); (try clear p382); (try clear p383); (try clear p384); (try clear p385); (try clear p386); (try clear p387); (try clear p388); (try clear p6); (try clear q3); (try clear q37); (try clear q372); (try clear q373); (try clear q374); (try clear q375); (try clear q376); (try clear q377); (try clear q378); (try clear q379); (try clear q38); (try clear q380); (try clear q381); (try clear q382); (try clear q383); (try clear q384); (try clear q385); (try clear q386); (try clear q387); (try clear q388)
                          obtain ⟨kq, x167_53, rfl, HA, HJ53, ⟨mc53, rfl⟩⟩ := hcut
                          cases kq with
                          | zero => exact absurd HA.out (by simp [gjson_validnumber.j9])
                          | succ kj53 =>
                           have H := HA.out
                           clear HA
                           simp only [gjson_validnumber.j9] at H
                           by_cases c58 : x167_53 = true
                           ·
                            subst c58
                            have H1 : (some (x1_50, false)) = some (r1, r2) := by rw [if_pos rfl] at H; exact H
                            clear H
                            have H := H1
                            clear H1
                            simp only [Option.some.injEq, Prod.mk.injEq] at H
                            obtain ⟨rfl, rfl⟩ := H
                            go_wp2
                            go_ret2
                            exact ⟨by first | rfl | (simp; done) | (simp only [← hji3] <;> (first | rfl | simp)) | (simp [*]; done), by repeat (first | exact Drawn0.refl _ | apply Drawn0.step)⟩
                           ·
                            replace c58 := Bool.eq_false_iff.mpr c58
                            subst c58
                            have H1 : (gjson_validnumber.l2 kj53 l0 (wrap64 (x1_50 + 1))) = some (r1, r2) := by rw [if_neg (show ¬ (false = true) by decide)] at H; exact H
                            clear H
                            have H := H1
                            clear H1
                            have H' := Aside0.mk H
                            clear H
                            go_wp2
                            try simp only [Act.put, List.setIfInBounds_toArray, List.set_cons_succ, List.set_cons_zero]
                            go_loopg [1] kj53 (fun kq v1 w' => ∃ (x1_8 : Int), v1 = .int .i64 x1_8 ∧ Aside0 (gjson_validnumber.l2 kq l0 x1_8 = some (r1, r2)) ∧ Aside0 (kq ≤ kj53) ∧ Drawn0 w w')
                            case atStart => exact ⟨(wrap64 (x1_50 + 1)), (by first | rfl | (simp; done) | (simp [*]; done) | (simp; rw [Bool.eq_iff_iff]; simp; done)), H', ⟨Nat.le_refl _⟩, by repeat (first | exact Drawn0.refl _ | apply Drawn0.step)⟩
                            case round =>
                             as_aux_lemma =>
                             clear H'
                             (try clear c1); (try clear c2); (try clear p2); (try clear c3); (try clear p3); (try clear q3); (try clear hx3); (try clear c4); (try clear c4b0); (try clear c5); (try clear c5b0); (try clear p6); (try clear c7); (try clear c7b0); (try clear c7b1); (try clear c8); (try clear c8b0); (try clear c8b1); (try clear c10); (try clear c10b0); (try clear c11); (try clear c11b0); (try clear c12); (try clear c12b0); (try clear c13); (try clear c13b0); (try clear c14); (try clear c14b0); (try clear c14b1); (try clear c15); (try clear c15b0); (try clear c16); (try clear c16b0); (try clear c18); (try clear c18b0); (try clear c18b1); (try clear c19); (try clear c19b0); (try clear c20); (try clear c20b0); (try clear c21); (try clear c21b0); (try clear c22); (try clear c22b0); (try clear c23); (try clear c23b0); (try clear c23b1); (try clear c24); (try clear c24b0); (try clear c25); (try clear c25b0); (try clear c27); (try clear c27b0); (try clear c27b1); (try clear c28); (try clear c28b0); (try clear c28b1); (try clear c31); (try clear c31b0); (try clear c32); (try clear c32b0); (try clear c33); (try clear c33b0); (try clear c34); (try clear c35); (try clear c35b0); (try clear c36); (try clear c36b0); (try clear c37); (try clear c37b0); (try clear p37); (try clear q37); (try clear hx37); (try clear c38); (try clear c38b0); (try clear p38); (try clear q38); (try clear hx38); (try clear c39); (try clear c39b0); (try clear c39b1); (try clear c41); (try clear c41b0); (try clear c42); (try clear c42b0); (try clear c43); (try clear c43b0); (try clear c43b1); (try clear c44); (try clear c45); (try clear c45b0); (try clear c45b1); (try clear c48); (try clear c48b0); (try clear c49); (try clear c49b0); (try clear c50); (try clear c50b0); (try clear c50b1); (try clear c52); (try clear c53); (try clear c53b0); (try clear c53b1); (try clear c55); (try clear c55b0); (try clear c56); (try clear c56b0); (try clear c57); (try clear c57b0); (try clear c58); (try clear hx372_0); (try clear hx373_0); (try clear hx374_0); (try clear hx375_0); (try clear hx376_0); (try clear hx377_0); (try clear hx378_0); (try clear hx379_0); (try clear hx380_0); (try clear hx381_0); (try clear hx382_0); (try clear hx383_0); (try clear hx384_0); (try clear hx385_0); (try clear hx386_0); (try clear hx387_0); (try clear hx388_0); (try clear p2); (try clear p3); (try clear p37); (try clear p372); (try clear p373); (try clear p374); (try clear p375); (try clear p376); (try clear p377); (try clear p378); (try clear p379); (try clear p38); (try clear p380); (try clear p381); (try clear p382); (try clear p383); (try clear p384); (try clear p385); (try clear p386); (try clear p387); (try clear p388); (try clear p6); (try clear q3); (try clear q37); (try clear q372); (try clear q373); (try clear q374); (try clear q375); (try clear q376); (try clear q377); (try clear q378); (try clear q379); (try clear q38); (try clear q380); (try clear q381); (try clear q382); (try clear q383); (try clear q384); (try clear q385); (try clear q386); (try clear q387); (try clear q388)
                             obtain ⟨x1_8, rfl, HA, HK8, ⟨m8, rfl⟩⟩ := hrel
                             cases gk with
                             | zero => exact absurd HA.out (by simp [gjson_validnumber.l2])
                             | succ k8 =>
                              have H := HA.out
                              clear HA
                              simp only [gjson_validnumber.l2] at H
                              by_cases c59 : x1_8 < (l0.length : Int)
                              ·
                               rw [if_pos c59] at H
                               have c59b0 : decide (x1_8 < (l0.length : Int)) = true := decide_eq_true c59
                               clear c59
                               by_cases c60 : 0 ≤ x1_8
                               ·
                                rw [if_pos c60] at H
                                have c60b0 : decide (0 ≤ x1_8) = true := decide_eq_true c60
                                clear c60
                                by_cases c61 : (rd l0 x1_8) ≥ 48
                                ·
                                 rw [if_pos c61] at H
                                 have c61b0 : decide (48 ≤ (rd l0 x1_8)) = true := decide_eq_true c61
                                 clear c61
                                 by_cases c62 : (rd l0 x1_8) ≤ 57
                                 ·
                                  rw [if_pos c62] at H
                                  have c62b0 : decide ((rd l0 x1_8) ≤ 57) = true := decide_eq_true c62
                                  clear c62
                                  have H' := Aside0.mk H
                                  clear H
                                  have p389 : 0 ≤ (x1_8 : Int) := of_decide_eq_true (by first | (with_reducible assumption) | assumption)
                                  have q389 : x1_8 < (l0.length : Int) := of_decide_eq_true (by first | (with_reducible assumption) | assumption)
                                  obtain ⟨ad389, e389, hx389_0⟩ := Kd.at_int HR0.out x1_8 p389 q389
                                  obtain rfl : ad372 = ad389 := (by injection e389)
                                  replace p389 := eq_true p389
                                  replace q389 := eq_true q389
                                  have p390 : 0 ≤ (x1_8 : Int) := of_decide_eq_true (by first | (with_reducible assumption) | assumption)
                                  have q390 : x1_8 < (l0.length : Int) := of_decide_eq_true (by first | (with_reducible assumption) | assumption)
                                  obtain ⟨ad390, e390, hx390_0⟩ := Kd.at_int HR0.out x1_8 p390 q390
                                  obtain rfl : ad372 = ad390 := (by injection e390)
                                  replace p390 := eq_true p390
                                  replace q390 := eq_true q390
                                  go_wp2
                                  go_roundg k8
                                  case measure => have := HJ5.out; have := HJ16.out; have := HJ25.out; have := HJ39.out; have := HJ45.out; have := HJ50.out; have := HJ53.out; have := HK8.out; omega
                                  case rel => exact ⟨(wrap64 (x1_8 + 1)), (by first | rfl | (simp; done) | (simp [*]; done) | (simp; rw [Bool.eq_iff_iff]; simp; done)), H', ⟨by have := HJ5.out; have := HJ16.out; have := HJ25.out; have := HJ39.out; have := HJ45.out; have := HJ50.out; have := HJ53.out; have := HK8.out; omega⟩, by repeat (first | exact Drawn0.refl _ | apply Drawn0.step)⟩
                                 ·
                                  rw [if_neg c62] at H
                                  have c62b0 : decide ((rd l0 x1_8) ≤ 57) = false := decide_eq_false c62
                                  clear c62
                                  simp only [Option.some.injEq, Prod.mk.injEq] at H
                                  obtain ⟨rfl, rfl⟩ := H
                                  have p389 : 0 ≤ (x1_8 : Int) := of_decide_eq_true (by first | (with_reducible assumption) | assumption)
                                  have q389 : x1_8 < (l0.length : Int) := of_decide_eq_true (by first | (with_reducible assumption) | assumption)
                                  obtain ⟨ad389, e389, hx389_0⟩ := Kd.at_int HR0.out x1_8 p389 q389
                                  obtain rfl : ad372 = ad389 := (by injection e389)
                                  replace p389 := eq_true p389
                                  replace q389 := eq_true q389
                                  have p390 : 0 ≤ (x1_8 : Int) := of_decide_eq_true (by first | (with_reducible assumption) | assumption)
                                  have q390 : x1_8 < (l0.length : Int) := of_decide_eq_true (by first | (with_reducible assumption) | assumption)
                                  obtain ⟨ad390, e390, hx390_0⟩ := Kd.at_int HR0.out x1_8 p390 q390
                                  obtain rfl : ad372 = ad390 := (by injection e390)
                                  replace p390 := eq_true p390
                                  replace q390 := eq_true q390
                                  go_wp2
                                  go_ret2
                                  exact ⟨by first | rfl | (simp; done) | (simp only [← hji3] <;> (first | rfl | simp)) | (simp [*]; done), by repeat (first | exact Drawn0.refl _ | apply Drawn0.step)⟩
                                ·
                                 rw [if_neg c61] at H
                                 have c61b0 : decide (48 ≤ (rd l0 x1_8)) = false := decide_eq_false c61
                                 clear c61
                                 simp only [Option.some.injEq, Prod.mk.injEq] at H
                                 obtain ⟨rfl, rfl⟩ := H
                                 have p389 : 0 ≤ (x1_8 : Int) := of_decide_eq_true (by first | (with_reducible assumption) | assumption)
                                 have q389 : x1_8 < (l0.length : Int) := of_decide_eq_true (by first | (with_reducible assumption) | assumption)
                                 obtain ⟨ad389, e389, hx389_0⟩ := Kd.at_int HR0.out x1_8 p389 q389
                                 obtain rfl : ad372 = ad389 := (by injection e389)
                                 replace p389 := eq_true p389
                                 replace q389 := eq_true q389
                                 go_wp2
                                 go_ret2
                                 exact ⟨by first | rfl | (simp; done) | (simp only [← hji3] <;> (first | rfl | simp)) | (simp [*]; done), by repeat (first | exact Drawn0.refl _ | apply Drawn0.step)⟩
                               ·
                                rw [if_neg c60] at H
                                exact absurd H (by simp)
                              ·
                               rw [if_neg c59] at H
                               have c59b0 : decide (x1_8 < (l0.length : Int)) = false := decide_eq_false c59
                               clear c59
                               simp only [Option.some.injEq, Prod.mk.injEq] at H
                               obtain ⟨rfl, rfl⟩ := H
                               go_wp2
                               go_ret2
                               exact ⟨by first | rfl | (simp; done) | (simp only [← hji3] <;> (first | rfl | simp)) | (simp [*]; done), by repeat (first | exact Drawn0.refl _ | apply Drawn0.step)⟩
                  ·
                   replace c44 := Bool.eq_false_iff.mpr c44
                   subst c44
                   have H1 : (some (x1_25, true)) = some (r1, r2) := by rw [if_neg (show ¬ (false = true) by decide)] at H; exact H
                   clear H
                   have H := H1
                   clear H1
                   simp only [Option.some.injEq, Prod.mk.injEq] at H
                   obtain ⟨rfl, rfl⟩ := H
                   go_wp2
                   go_ret2
                   exact ⟨by first | rfl | (simp; done) | (simp only [← hji3] <;> (first | rfl | simp)) | (simp [*]; done), by repeat (first | exact Drawn0.refl _ | apply Drawn0.step)⟩
            ·
             rw [if_neg c25] at H
             exact absurd H (by simp)
           ·
            rw [if_neg c24] at H
            exact absurd H (by simp)
       ·
        rw [if_neg c16] at H
        exact absurd H (by simp)
      ·
       rw [if_neg c15] at H
       exact absurd H (by simp)
  ·
   rw [if_neg c5] at H
   exact absurd H (by simp)
 ·
  rw [if_neg c4] at H
  exact absurd H (by simp)

end Go.Proofs.Ytdokakhhpcckaaa.MFnPrSpecAgain
