/- What Go functions compute, as functions of numbers and lists, and the walks that show it. No condition. Written by a program (wip/tools/mprint.py) over the kit's print. -/
import Derived.Test.YtdokakhhpcckaaaMFnPrSpecAgain0
namespace Go.Proofs.Ytdokakhhpcckaaa.MFnPrSpecAgain
open Go.RowKit Go.Proofs.YtdokakhhpcckaaaW.PrintWords Go.Proofs.YtdokakhhpcckaaaW.PrintLast Go.Proofs.YtdokakhhpcckaaaW.PrintMore
attribute [local go_sem] max2_int min2_int max_two min_two max_three min_three max_four min_four   -- for this text's walks alone
set_option linter.unusedVariables false
set_option linter.unusedSimpArgs false

/-! ### pretty_spec: function 16 -/
mutual
def pretty_spec.l0 : Nat → List Int → List Int → Int → Option (List Int)
 | 0, _, _, _ => none
 | k + 1, x0, x1, x5 => if x5 < (x0.length : Int) then (if 0 ≤ x5 then (if (rd x0 x5) = 47 then (if x5 < (wrap64 ((x0.length : Int) - 1)) then (if 0 ≤ (wrap64 (x5 + 1)) then (if (wrap64 (x5 + 1)) < (x0.length : Int) then (if (rd x0 (wrap64 (x5 + 1))) = 47 then ((some (([32, 32] : List Int) : List Int)).bind fun y289 => (if x1.length + y289.length < 140737488355328 then (pretty_spec.l1 k x0 (x1 ++ y289) (wrap64 (x5 + 2))) else (none))) else (if (rd x0 (wrap64 (x5 + 1))) = 42 then ((some (([32, 32] : List Int) : List Int)).bind fun y313 => (if x1.length + y313.length < 140737488355328 then (pretty_spec.l2 k x0 (x1 ++ y313) (wrap64 (x5 + 2))) else (none))) else (pretty_spec.j4 k x0 x1 x5))) else (none)) else (none)) else (pretty_spec.j4 k x0 x1 x5)) else (pretty_spec.j4 k x0 x1 x5)) else (none)) else (some x1)
def pretty_spec.j4 : Nat → List Int → List Int → Int → Option (List Int)
 | 0, _, _, _ => none
 | k + 1, x0, x1, x5 => if 0 ≤ x5 then (if x5 < (x0.length : Int) then (if x1.length < 140737488355328 then ((some (x1 ++ [rd x0 x5] : List Int)).bind fun y346 => (if (rd x0 x5) = 34 then (pretty_spec.l3 k x0 y346 (wrap64 (x5 + 1))) else (if (rd x0 x5) = 125 then (pretty_spec.j7 k x0 y346 x5 true) else (pretty_spec.j7 k x0 y346 x5 ((rd x0 x5) == 93))))) else (none)) else (none)) else (none)
def pretty_spec.l3 : Nat → List Int → List Int → Int → Option (List Int)
 | 0, _, _, _ => none
 | k + 1, x0, x1, x5 => if x5 < (x0.length : Int) then (if 0 ≤ x5 then (if x1.length < 140737488355328 then ((some (x1 ++ [rd x0 x5] : List Int)).bind fun y351 => (if (rd x0 x5) = 34 then (pretty_spec.l4 k x0 y351 x5 (wrap64 (x5 - 1))) else (pretty_spec.l3 k x0 y351 (wrap64 (x5 + 1))))) else (none)) else (none)) else (pretty_spec.l0 k x0 x1 (wrap64 (x5 + 1)))
def pretty_spec.l4 : Nat → List Int → List Int → Int → Int → Option (List Int)
 | 0, _, _, _, _ => none
 | k + 1, x0, x1, x5, x6 => if 0 ≤ x6 then (if x6 < (x0.length : Int) then (if (rd x0 x6) = 92 then (pretty_spec.l4 k x0 x1 x5 (wrap64 (x6 - 1))) else (if (Int.tmod (wrap64 (x6 - x5)) 2) = 0 then (pretty_spec.l3 k x0 x1 (wrap64 (x5 + 1))) else (pretty_spec.l0 k x0 x1 (wrap64 (x5 + 1))))) else (none)) else (none)
def pretty_spec.j7 : Nat → List Int → List Int → Int → Bool → Option (List Int)
 | 0, _, _, _, _ => none
 | k + 1, x0, x1, x5, x195 => if x195 = true then (pretty_spec.l5 k x0 x1 x5 (wrap64 ((x1.length : Int) - 2))) else (pretty_spec.l0 k x0 x1 (wrap64 (x5 + 1)))
def pretty_spec.l5 : Nat → List Int → List Int → Int → Int → Option (List Int)
 | 0, _, _, _, _ => none
 | k + 1, x0, x1, x5, x7 => if x7 ≥ 0 then (if 0 ≤ x7 then (if x7 < (x1.length : Int) then (if (rd x1 x7) ≤ 32 then (pretty_spec.l5 k x0 x1 x5 (wrap64 (x7 - 1))) else (if (rd x1 x7) = 44 then (pretty_spec.l0 k x0 (x1.set (x7 : Int).toNat 32) (wrap64 (x5 + 1))) else (pretty_spec.l0 k x0 x1 (wrap64 (x5 + 1))))) else (none)) else (none)) else (pretty_spec.l0 k x0 x1 (wrap64 (x5 + 1)))
def pretty_spec.l1 : Nat → List Int → List Int → Int → Option (List Int)
 | 0, _, _, _ => none
 | k + 1, x0, x1, x5 => if x5 < (x0.length : Int) then (if 0 ≤ x5 then (if (rd x0 x5) = 10 then (if x1.length < 140737488355328 then (pretty_spec.l0 k x0 (x1 ++ [10]) (wrap64 (x5 + 1))) else (none)) else (if (rd x0 x5) = 9 then (if x1.length < 140737488355328 then (pretty_spec.l1 k x0 (x1 ++ [rd x0 x5]) (wrap64 (x5 + 1))) else (none)) else (if (rd x0 x5) = 13 then (if x1.length < 140737488355328 then (pretty_spec.l1 k x0 (x1 ++ [rd x0 x5]) (wrap64 (x5 + 1))) else (none)) else (if x1.length < 140737488355328 then (pretty_spec.l1 k x0 (x1 ++ [32]) (wrap64 (x5 + 1))) else (none))))) else (none)) else (pretty_spec.l0 k x0 x1 (wrap64 (x5 + 1)))
def pretty_spec.l2 : Nat → List Int → List Int → Int → Option (List Int)
 | 0, _, _, _ => none
 | k + 1, x0, x1, x5 => if x5 < (wrap64 ((x0.length : Int) - 1)) then (if 0 ≤ x5 then (if x5 < (x0.length : Int) then (if (rd x0 x5) = 42 then (if 0 ≤ (wrap64 (x5 + 1)) then (if (wrap64 (x5 + 1)) < (x0.length : Int) then (pretty_spec.j3 k x0 x1 x5 ((rd x0 (wrap64 (x5 + 1))) == 47)) else (none)) else (none)) else (pretty_spec.j3 k x0 x1 x5 false)) else (none)) else (none)) else (pretty_spec.l0 k x0 x1 (wrap64 (x5 + 1)))
def pretty_spec.j3 : Nat → List Int → List Int → Int → Bool → Option (List Int)
 | 0, _, _, _, _ => none
 | k + 1, x0, x1, x5, x103 => if x103 = true then ((some (([32, 32] : List Int) : List Int)).bind fun y321 => (if x1.length + y321.length < 140737488355328 then (pretty_spec.l0 k x0 (x1 ++ y321) (wrap64 ((wrap64 (x5 + 1)) + 1))) else (none))) else (if 0 ≤ x5 then (if x5 < (x0.length : Int) then (if (rd x0 x5) = 10 then (if x1.length < 140737488355328 then (pretty_spec.l2 k x0 (x1 ++ [rd x0 x5]) (wrap64 (x5 + 1))) else (none)) else (if (rd x0 x5) = 9 then (if x1.length < 140737488355328 then (pretty_spec.l2 k x0 (x1 ++ [rd x0 x5]) (wrap64 (x5 + 1))) else (none)) else (if (rd x0 x5) = 13 then (if x1.length < 140737488355328 then (pretty_spec.l2 k x0 (x1 ++ [rd x0 x5]) (wrap64 (x5 + 1))) else (none)) else (if x1.length < 140737488355328 then (pretty_spec.l2 k x0 (x1 ++ [32]) (wrap64 (x5 + 1))) else (none))))) else (none)) else (none))
end
def pretty_spec.f (k : Nat) (l0 : List Int) (l1 : List Int) : Option (List Int) := if 0 ≤ (l1.length : Int) then (pretty_spec.l0 k l0 (l1.take (0 : Int).toNat) 0) else (none)
theorem pretty_spec.mono_l : ∀ k, (∀ y0 y1 y2, LeO (pretty_spec.l0 k y0 y1 y2) (pretty_spec.l0 (k + 1) y0 y1 y2)) ∧ (∀ y0 y1 y2, LeO (pretty_spec.j4 k y0 y1 y2) (pretty_spec.j4 (k + 1) y0 y1 y2)) ∧ (∀ y0 y1 y2, LeO (pretty_spec.l3 k y0 y1 y2) (pretty_spec.l3 (k + 1) y0 y1 y2)) ∧ (∀ y0 y1 y2 y3, LeO (pretty_spec.l4 k y0 y1 y2 y3) (pretty_spec.l4 (k + 1) y0 y1 y2 y3)) ∧ (∀ y0 y1 y2 y3, LeO (pretty_spec.j7 k y0 y1 y2 y3) (pretty_spec.j7 (k + 1) y0 y1 y2 y3)) ∧ (∀ y0 y1 y2 y3, LeO (pretty_spec.l5 k y0 y1 y2 y3) (pretty_spec.l5 (k + 1) y0 y1 y2 y3)) ∧ (∀ y0 y1 y2, LeO (pretty_spec.l1 k y0 y1 y2) (pretty_spec.l1 (k + 1) y0 y1 y2)) ∧ (∀ y0 y1 y2, LeO (pretty_spec.l2 k y0 y1 y2) (pretty_spec.l2 (k + 1) y0 y1 y2)) ∧ (∀ y0 y1 y2 y3, LeO (pretty_spec.j3 k y0 y1 y2 y3) (pretty_spec.j3 (k + 1) y0 y1 y2 y3))
 | 0 => ⟨fun _ _ _ r h => by simp [pretty_spec.l0] at h, fun _ _ _ r h => by simp [pretty_spec.j4] at h, fun _ _ _ r h => by simp [pretty_spec.l3] at h, fun _ _ _ _ r h => by simp [pretty_spec.l4] at h, fun _ _ _ _ r h => by simp [pretty_spec.j7] at h, fun _ _ _ _ r h => by simp [pretty_spec.l5] at h, fun _ _ _ r h => by simp [pretty_spec.l1] at h, fun _ _ _ r h => by simp [pretty_spec.l2] at h, fun _ _ _ _ r h => by simp [pretty_spec.j3] at h⟩
 | k + 1 => by
  obtain ⟨ih0, ih1, ih2, ih3, ih4, ih5, ih6, ih7, ih8⟩ := pretty_spec.mono_l k
  refine ⟨?_, ?_, ?_, ?_, ?_, ?_, ?_, ?_, ?_⟩
  ·
   intro y0 y1 y2
   unfold pretty_spec.l0
   repeat' first
   | (with_reducible exact ih0 _ _ _)
   | (with_reducible exact ih1 _ _ _)
   | (with_reducible exact ih2 _ _ _)
   | (with_reducible exact ih3 _ _ _ _)
   | (with_reducible exact ih4 _ _ _ _)
   | (with_reducible exact ih5 _ _ _ _)
   | (with_reducible exact ih6 _ _ _)
   | (with_reducible exact ih7 _ _ _)
   | (with_reducible exact ih8 _ _ _ _)
   | (with_reducible exact LeO.refl _)
   | (with_reducible exact LeO.none _)
   | (with_reducible refine LeO.ite ?_ ?_)
   | (with_reducible refine LeO.bind ?_ (fun _ => ?_))
   | exact ih0 _ _ _
   | exact ih1 _ _ _
   | exact ih2 _ _ _
   | exact ih3 _ _ _ _
   | exact ih4 _ _ _ _
   | exact ih5 _ _ _ _
   | exact ih6 _ _ _
   | exact ih7 _ _ _
   | exact ih8 _ _ _ _
   | exact LeO.none _
   | refine LeO.ite ?_ ?_
   | refine LeO.bind ?_ (fun _ => ?_)
  ·
   intro y0 y1 y2
   unfold pretty_spec.j4
   repeat' first
   | (with_reducible exact ih0 _ _ _)
   | (with_reducible exact ih1 _ _ _)
   | (with_reducible exact ih2 _ _ _)
   | (with_reducible exact ih3 _ _ _ _)
   | (with_reducible exact ih4 _ _ _ _)
   | (with_reducible exact ih5 _ _ _ _)
   | (with_reducible exact ih6 _ _ _)
   | (with_reducible exact ih7 _ _ _)
   | (with_reducible exact ih8 _ _ _ _)
   | (with_reducible exact LeO.refl _)
   | (with_reducible exact LeO.none _)
   | (with_reducible refine LeO.ite ?_ ?_)
   | (with_reducible refine LeO.bind ?_ (fun _ => ?_))
   | exact ih0 _ _ _
   | exact ih1 _ _ _
   | exact ih2 _ _ _
   | exact ih3 _ _ _ _
   | exact ih4 _ _ _ _
   | exact ih5 _ _ _ _
   | exact ih6 _ _ _
   | exact ih7 _ _ _
   | exact ih8 _ _ _ _
   | exact LeO.none _
   | refine LeO.ite ?_ ?_
   | refine LeO.bind ?_ (fun _ => ?_)
  ·
   intro y0 y1 y2
   unfold pretty_spec.l3
   repeat' first
   | (with_reducible exact ih0 _ _ _)
   | (with_reducible exact ih1 _ _ _)
   | (with_reducible exact ih2 _ _ _)
   | (with_reducible exact ih3 _ _ _ _)
   | (with_reducible exact ih4 _ _ _ _)
   | (with_reducible exact ih5 _ _ _ _)
   | (with_reducible exact ih6 _ _ _)
   | (with_reducible exact ih7 _ _ _)
   | (with_reducible exact ih8 _ _ _ _)
   | (with_reducible exact LeO.refl _)
   | (with_reducible exact LeO.none _)
   | (with_reducible refine LeO.ite ?_ ?_)
   | (with_reducible refine LeO.bind ?_ (fun _ => ?_))
   | exact ih0 _ _ _
   | exact ih1 _ _ _
   | exact ih2 _ _ _
   | exact ih3 _ _ _ _
   | exact ih4 _ _ _ _
   | exact ih5 _ _ _ _
   | exact ih6 _ _ _
   | exact ih7 _ _ _
   | exact ih8 _ _ _ _
   | exact LeO.none _
   | refine LeO.ite ?_ ?_
   | refine LeO.bind ?_ (fun _ => ?_)
  ·
   intro y0 y1 y2 y3
   unfold pretty_spec.l4
   repeat' first
   | (with_reducible exact ih0 _ _ _)
   | (with_reducible exact ih1 _ _ _)
   | (with_reducible exact ih2 _ _ _)
   | (with_reducible exact ih3 _ _ _ _)
   | (with_reducible exact ih4 _ _ _ _)
   | (with_reducible exact ih5 _ _ _ _)
   | (with_reducible exact ih6 _ _ _)
   | (with_reducible exact ih7 _ _ _)
   | (with_reducible exact ih8 _ _ _ _)
   | (with_reducible exact LeO.refl _)
   | (with_reducible exact LeO.none _)
   | (with_reducible refine LeO.ite ?_ ?_)
   | (with_reducible refine LeO.bind ?_ (fun _ => ?_))
   | exact ih0 _ _ _
   | exact ih1 _ _ _
   | exact ih2 _ _ _
   | exact ih3 _ _ _ _
   | exact ih4 _ _ _ _
   | exact ih5 _ _ _ _
   | exact ih6 _ _ _
   | exact ih7 _ _ _
   | exact ih8 _ _ _ _
   | exact LeO.none _
   | refine LeO.ite ?_ ?_
   | refine LeO.bind ?_ (fun _ => ?_)
  ·
   intro y0 y1 y2 y3
   unfold pretty_spec.j7
   repeat' first
   | (with_reducible exact ih0 _ _ _)
   | (with_reducible exact ih1 _ _ _)
   | (with_reducible exact ih2 _ _ _)
   | (with_reducible exact ih3 _ _ _ _)
   | (with_reducible exact ih4 _ _ _ _)
   | (with_reducible exact ih5 _ _ _ _)
   | (with_reducible exact ih6 _ _ _)
   | (with_reducible exact ih7 _ _ _)
   | (with_reducible exact ih8 _ _ _ _)
   | (with_reducible exact LeO.refl _)
   | (with_reducible exact LeO.none _)
   | (with_reducible refine LeO.ite ?_ ?_)
   | (with_reducible refine LeO.bind ?_ (fun _ => ?_))
   | exact ih0 _ _ _
   | exact ih1 _ _ _
   | exact ih2 _ _ _
   | exact ih3 _ _ _ _
   | exact ih4 _ _ _ _
   | exact ih5 _ _ _ _
   | exact ih6 _ _ _
   | exact ih7 _ _ _
   | exact ih8 _ _ _ _
   | exact LeO.none _
   | refine LeO.ite ?_ ?_
   | refine LeO.bind ?_ (fun _ => ?_)
  ·
   intro y0 y1 y2 y3
   unfold pretty_spec.l5
   repeat' first
   | (with_reducible exact ih0 _ _ _)
   | (with_reducible exact ih1 _ _ _)
   | (with_reducible exact ih2 _ _ _)
   | (with_reducible exact ih3 _ _ _ _)
   | (with_reducible exact ih4 _ _ _ _)
   | (with_reducible exact ih5 _ _ _ _)
   | (with_reducible exact ih6 _ _ _)
   | (with_reducible exact ih7 _ _ _)
   | (with_reducible exact ih8 _ _ _ _)
   | (with_reducible exact LeO.refl _)
   | (with_reducible exact LeO.none _)
   | (with_reducible refine LeO.ite ?_ ?_)
   | (with_reducible refine LeO.bind ?_ (fun _ => ?_))
   | exact ih0 _ _ _
   | exact ih1 _ _ _
   | exact ih2 _ _ _
   | exact ih3 _ _ _ _
   | exact ih4 _ _ _ _
   | exact ih5 _ _ _ _
   | exact ih6 _ _ _
   | exact ih7 _ _ _
   | exact ih8 _ _ _ _
   | exact LeO.none _
   | refine LeO.ite ?_ ?_
   | refine LeO.bind ?_ (fun _ => ?_)
  ·
   intro y0 y1 y2
   unfold pretty_spec.l1
   repeat' first
   | (with_reducible exact ih0 _ _ _)
   | (with_reducible exact ih1 _ _ _)
   | (with_reducible exact ih2 _ _ _)
   | (with_reducible exact ih3 _ _ _ _)
   | (with_reducible exact ih4 _ _ _ _)
   | (with_reducible exact ih5 _ _ _ _)
   | (with_reducible exact ih6 _ _ _)
   | (with_reducible exact ih7 _ _ _)
   | (with_reducible exact ih8 _ _ _ _)
   | (with_reducible exact LeO.refl _)
   | (with_reducible exact LeO.none _)
   | (with_reducible refine LeO.ite ?_ ?_)
   | (with_reducible refine LeO.bind ?_ (fun _ => ?_))
   | exact ih0 _ _ _
   | exact ih1 _ _ _
   | exact ih2 _ _ _
   | exact ih3 _ _ _ _
   | exact ih4 _ _ _ _
   | exact ih5 _ _ _ _
   | exact ih6 _ _ _
   | exact ih7 _ _ _
   | exact ih8 _ _ _ _
   | exact LeO.none _
   | refine LeO.ite ?_ ?_
   | refine LeO.bind ?_ (fun _ => ?_)
  ·
   intro y0 y1 y2
   unfold pretty_spec.l2
   repeat' first
   | (with_reducible exact ih0 _ _ _)
   | (with_reducible exact ih1 _ _ _)
   | (with_reducible exact ih2 _ _ _)
   | (with_reducible exact ih3 _ _ _ _)
   | (with_reducible exact ih4 _ _ _ _)
   | (with_reducible exact ih5 _ _ _ _)
   | (with_reducible exact ih6 _ _ _)
   | (with_reducible exact ih7 _ _ _)
   | (with_reducible exact ih8 _ _ _ _)
   | (with_reducible exact LeO.refl _)
   | (with_reducible exact LeO.none _)
   | (with_reducible refine LeO.ite ?_ ?_)
   | (with_reducible refine LeO.bind ?_ (fun _ => ?_))
   | exact ih0 _ _ _
   | exact ih1 _ _ _
   | exact ih2 _ _ _
   | exact ih3 _ _ _ _
   | exact ih4 _ _ _ _
   | exact ih5 _ _ _ _
   | exact ih6 _ _ _
   | exact ih7 _ _ _
   | exact ih8 _ _ _ _
   | exact LeO.none _
   | refine LeO.ite ?_ ?_
   | refine LeO.bind ?_ (fun _ => ?_)
  ·
   intro y0 y1 y2 y3
   unfold pretty_spec.j3
   repeat' first
   | (with_reducible exact ih0 _ _ _)
   | (with_reducible exact ih1 _ _ _)
   | (with_reducible exact ih2 _ _ _)
   | (with_reducible exact ih3 _ _ _ _)
   | (with_reducible exact ih4 _ _ _ _)
   | (with_reducible exact ih5 _ _ _ _)
   | (with_reducible exact ih6 _ _ _)
   | (with_reducible exact ih7 _ _ _)
   | (with_reducible exact ih8 _ _ _ _)
   | (with_reducible exact LeO.refl _)
   | (with_reducible exact LeO.none _)
   | (with_reducible refine LeO.ite ?_ ?_)
   | (with_reducible refine LeO.bind ?_ (fun _ => ?_))
   | exact ih0 _ _ _
   | exact ih1 _ _ _
   | exact ih2 _ _ _
   | exact ih3 _ _ _ _
   | exact ih4 _ _ _ _
   | exact ih5 _ _ _ _
   | exact ih6 _ _ _
   | exact ih7 _ _ _
   | exact ih8 _ _ _ _
   | exact LeO.none _
   | refine LeO.ite ?_ ?_
   | refine LeO.bind ?_ (fun _ => ?_)
theorem pretty_spec.mono : ∀ a0 a1 k, LeO (pretty_spec.f k a0 a1) (pretty_spec.f (k + 1) a0 a1) := by
 intro a0 a1 k
 obtain ⟨ih0, ih1, ih2, ih3, ih4, ih5, ih6, ih7, ih8⟩ := pretty_spec.mono_l k
 unfold pretty_spec.f
 repeat' first
   | (with_reducible exact ih0 _ _ _)
   | (with_reducible exact ih1 _ _ _)
   | (with_reducible exact ih2 _ _ _)
   | (with_reducible exact ih3 _ _ _ _)
   | (with_reducible exact ih4 _ _ _ _)
   | (with_reducible exact ih5 _ _ _ _)
   | (with_reducible exact ih6 _ _ _)
   | (with_reducible exact ih7 _ _ _)
   | (with_reducible exact ih8 _ _ _ _)
   | (with_reducible exact LeO.refl _)
   | (with_reducible exact LeO.none _)
   | (with_reducible refine LeO.ite ?_ ?_)
   | (with_reducible refine LeO.bind ?_ (fun _ => ?_))
   | exact ih0 _ _ _
   | exact ih1 _ _ _
   | exact ih2 _ _ _
   | exact ih3 _ _ _ _
   | exact ih4 _ _ _ _
   | exact ih5 _ _ _ _
   | exact ih6 _ _ _
   | exact ih7 _ _ _
   | exact ih8 _ _ _ _
   | exact LeO.none _
   | refine LeO.ite ?_ ?_
   | refine LeO.bind ?_ (fun _ => ?_)
set_option maxHeartbeats 8000000 in
set_option maxRecDepth 100000 in
theorem pretty_spec.calls (k : Nat) (A0 : Option Addr) (c0 : Nat) (l0 : List Int) (P1_ : Nat → Prop) (u9000_ : Value) (l1 : List Int) (r : List Int) (w0 w : World) (hB : Below w0.heap.size w0 w) (hr0 : ∀ W_, Kept w W_ (fun k_ => P1_ k_) → Kd.C (Kd.int .u8) W_ A0 l0.length l0) (hc0 : l0.length ≤ c0) (ho1 : Kd.R (Kd.int .u8) 5 w w0.heap.size P1_ u9000_ l1) (h : pretty_spec.f k l0 l1 = some r) :
  Calls Try.prog 16 #[.slice A0 l0.length c0, u9000_] w fun e w' => ∃ v0_ : Value, e = .returned (v0_) ∧ Kd.R (Kd.int .u8) 5 w' w0.heap.size (fun k_ => (P1_ k_ ∨ w.heap.size ≤ k_)) v0_ r ∧ Below w0.heap.size w0 w' ∧ Kept w w' (fun k_ => P1_ k_) := by
 have HR0 := Aside0.mk hr0
 have HC0 := Aside0.mk hc0
 clear hr0 hc0
 have HO1 := Aside0.mk (show Kd.R (Kd.int .u8) 5 w w0.heap.size (fun k_ => (P1_ k_ ∨ w.heap.size ≤ k_)) u9000_ l1 from Kd.R_mono ho1 (fun k_ hk => (.inl hk)))
 have HK := Aside0.mk (Kept.refl w (fun k_ => P1_ k_))
 have HW0 := Aside0.mk hB.size
 have HB := Aside0.mk hB
 clear hB
 have H : (if 0 ≤ (l1.length : Int) then (pretty_spec.l0 k l0 (l1.take (0 : Int).toNat) 0) else (none)) = some r := h
 clear h
 by_cases c3 : 0 ≤ (l1.length : Int)
 ·
  rw [if_pos c3] at H
  have c3b0 := eq_true c3
  have c3b1 : decide (0 ≤ (l1.length : Int)) = true := decide_eq_true c3
  clear c3
  obtain ⟨y284, hy284⟩ : ∃ y_ : List Int, y_ = (l1.take (0 : Int).toNat) := ⟨_, rfl⟩
  replace H : (pretty_spec.l0 k l0 y284 0) = some r := by first | (rw [hy284]; with_reducible exact H) | (have H2_ := (Option.bind_some _ _).symm.trans H; rw [hy284]; with_reducible exact H2_) | (have H2_ := (Option.bind_some _ _).symm.trans H; with_reducible exact H2_) | with_reducible exact H | (rw [hy284]; exact H) | exact H
  have Ny284 := Aside0.mk hy284
  clear hy284
  have H' := Aside0.mk H
  clear H
  obtain ⟨Ao4, co4, eo4⟩ := Kd.R_slice HO1.out
  subst eo4
  have q5 : (0 : Int) ≤ ((l1.length : Int) : Int) := of_decide_eq_true (by first | (with_reducible assumption) | assumption)
  obtain ⟨i05, hi05, _, hsz5, _⟩ := info_parts info5
  have hcut5 := cut_to (P := Try.prog) 26 5 .i64 Try.underlying26 hi05 Ao4 l1.length co4 0 (by omega) q5 (Kd.R_reads' HO1.out).2.1
  have hr5 := Kd.R_take (m := (0 : Int).toNat) HO1.out (by omega)
  have hy5 : y284.length = (0 : Int).toNat := (by rw [Ny284.out, List.length_take]; omega)
  rw [← Ny284.out] at hr5
  rw [← hy5] at hr5 hcut5
  clear hy5 hi05 hsz5 HO1
  have HO286 := Aside0.mk hr5
  clear hr5
  replace q5 := eq_true q5
  go_enter Try.func16, Try.ntmps16
  go_wp2
  try simp only [Act.put, List.setIfInBounds_toArray, List.set_cons_succ, List.set_cons_zero]
  go_loopg [1, 5] k (fun kq v1 v5 w' => ∃ (x1_1 : List Int) (x5_1 : Int), v5 = .int .i64 x5_1 ∧ Aside0 (pretty_spec.l0 kq l0 x1_1 x5_1 = some r) ∧ Aside0 (kq ≤ k) ∧ Aside0 (Kd.R (Kd.int .u8) 5 w' w0.heap.size (fun k_ => (P1_ k_ ∨ w.heap.size ≤ k_)) v1 x1_1) ∧ Aside0 (Kept w w' (fun k_ => P1_ k_)) ∧ Aside0 (Below w0.heap.size w0 w'))
  case atStart => exact ⟨(y284), (0), (by first | rfl | (simp; done) | (simp [*]; done) | (simp; rw [Bool.eq_iff_iff]; simp; done)), H', ⟨Nat.le_refl _⟩, ⟨by (with_reducible repeat (first | apply Kd.R_alloc | apply Kd.R_drewN | apply Kd.R_drew)); exact HO286.out⟩, ⟨by repeat (first | (with_reducible first | exact HK.out | apply Kept.alloc | apply Kept.drewN | apply Kept.drew) | exact HK.out)⟩, ⟨by repeat (first | (with_reducible first | exact HB.out | apply below_alloc | apply pw_below_drewN | apply below_drew1) | exact HB.out)⟩⟩
  case round =>
   as_aux_lemma =>
   clear H'
   (try clear c1); (try clear p2); (try clear c3); (try clear c3b0); (try clear c3b1); (try clear q5); (try clear q5)
   obtain ⟨x1_1, x5_1, rfl, HA, HK1, HO_1, HK, HB⟩ := hrel
   cases gk with
   | zero => exact absurd HA.out (by simp [pretty_spec.l0])
   | succ k1 =>
    have H := HA.out
    clear HA
    simp only [pretty_spec.l0] at H
    by_cases c6 : x5_1 < (l0.length : Int)
    ·
     rw [if_pos c6] at H
     have c6b0 : decide (x5_1 < (l0.length : Int)) = true := decide_eq_true c6
     clear c6
     by_cases c7 : 0 ≤ x5_1
     ·
      rw [if_pos c7] at H
      have c7b0 : decide (0 ≤ x5_1) = true := decide_eq_true c7
      clear c7
      have HC8 := Aside0.mk H
      clear H
      have p287 : 0 ≤ (x5_1 : Int) := of_decide_eq_true (by first | (with_reducible assumption) | assumption)
      have q287 : x5_1 < (l0.length : Int) := of_decide_eq_true (by first | (with_reducible assumption) | assumption)
      obtain ⟨ad287, e287, hx287_0⟩ := Kd.at_int (Kd.C_kept_now HR0.out HK.out) x5_1 p287 q287
      cases e287
      replace p287 := eq_true p287
      replace q287 := eq_true q287
      go_upto_if 20 with (fail)
      go_cut [1, 5] (fun v1 v5 wc => ∃ (kq : Nat) (x1_7 : List Int) (x5_7 : Int), v5 = .int .i64 x5_7 ∧ Aside0 (pretty_spec.j4 kq l0 x1_7 x5_7 = some r) ∧ Aside0 (kq ≤ k1) ∧ Aside0 (Kd.R (Kd.int .u8) 5 wc w0.heap.size (fun k_ => (P1_ k_ ∨ w.heap.size ≤ k_)) v1 x1_7) ∧ Aside0 (Kept w wc (fun k_ => P1_ k_)) ∧ Aside0 (Below w0.heap.size w0 wc))
      case first =>
       as_aux_lemma =>
       have H := HC8.out
       clear HC8
       by_cases c9 : (rd l0 x5_1) = 47
       ·
        rw [if_pos c9] at H
        have c9b0 : ((rd l0 x5_1) == 47) = true := beq_iff_eq.mpr c9
        have c9b1 : ((rd l0 x5_1) != 47) = false := bne_eq_false_iff_eq.mpr c9
        clear c9
        (first | rw [c9b0] | (simp only [i64_w, i32_w]; rw [c9b0]) | skip)
        by_cases c10 : x5_1 < (wrap64 ((l0.length : Int) - 1))
        ·
         rw [if_pos c10] at H
         have c10b0 : decide (x5_1 < (wrap64 ((l0.length : Int) - 1))) = true := decide_eq_true c10
         clear c10
         obtain ⟨ji11, hji11⟩ : ∃ j_ : Int, (wrap64 (x5_1 + 1)) = j_ := ⟨_, rfl⟩
         replace H : (if 0 ≤ (ji11) then (if (ji11) < (l0.length : Int) then (if (rd l0 (ji11)) = 47 then ((some (([32, 32] : List Int) : List Int)).bind fun y289 => (if x1_1.length + y289.length < 140737488355328 then (pretty_spec.l1 k1 l0 (x1_1 ++ y289) (wrap64 (x5_1 + 2))) else (none))) else (if (rd l0 (ji11)) = 42 then ((some (([32, 32] : List Int) : List Int)).bind fun y313 => (if x1_1.length + y313.length < 140737488355328 then (pretty_spec.l2 k1 l0 (x1_1 ++ y313) (wrap64 (x5_1 + 2))) else (none))) else (pretty_spec.j4 k1 l0 x1_1 x5_1))) else (none)) else (none)) = some r := by first | (rw [hji11] at H; exact H) | (simp only [hji11] at H ⊢; exact H)
         have hji11w : (IntKind.i64.wrap (x5_1 + 1)) = ji11 := (i64_w _).trans hji11
         by_cases c12 : 0 ≤ (ji11)
         ·
          rw [if_pos c12] at H
          have c12b0 : decide (0 ≤ (ji11)) = true := decide_eq_true c12
          clear c12
          by_cases c13 : (ji11) < (l0.length : Int)
          ·
           rw [if_pos c13] at H
           have c13b0 : decide ((ji11) < (l0.length : Int)) = true := decide_eq_true c13
           clear c13
           by_cases c14 : (rd l0 (ji11)) = 47
           ·
            rw [if_pos c14] at H
            have c14b0 : ((rd l0 (ji11)) == 47) = true := beq_iff_eq.mpr c14
            have c14b1 : ((rd l0 (ji11)) != 47) = false := bne_eq_false_iff_eq.mpr c14
            clear c14
            obtain ⟨y289, hy289⟩ : ∃ y_ : List Int, y_ = (([32, 32] : List Int)) := ⟨_, rfl⟩
            replace H : (if x1_1.length + y289.length < 140737488355328 then (pretty_spec.l1 k1 l0 (x1_1 ++ y289) (wrap64 (x5_1 + 2))) else (none)) = some r := by first | (rw [hy289]; with_reducible exact H) | (have H2_ := (Option.bind_some _ _).symm.trans H; rw [hy289]; with_reducible exact H2_) | (have H2_ := (Option.bind_some _ _).symm.trans H; with_reducible exact H2_) | with_reducible exact H | (rw [hy289]; exact H) | exact H
            have Ny289 := Aside0.mk hy289
            clear hy289
            by_cases c15 : x1_1.length + y289.length < 140737488355328
            ·
             rw [if_pos c15] at H
             have LMc15 := Aside0.mk c15
             clear c15
             obtain ⟨y292, hy292⟩ : ∃ y_ : List Int, y_ = (x1_1 ++ y289) := ⟨_, rfl⟩
             replace H : (pretty_spec.l1 k1 l0 y292 (wrap64 (x5_1 + 2))) = some r := by first | (rw [hy292]; with_reducible exact H) | (have H2_ := (Option.bind_some _ _).symm.trans H; rw [hy292]; with_reducible exact H2_) | (have H2_ := (Option.bind_some _ _).symm.trans H; with_reducible exact H2_) | with_reducible exact H | (rw [hy292]; exact H) | exact H
             have Ny292 := Aside0.mk hy292
             clear hy292
             have H' := Aside0.mk H
             clear H
             have p288 : 0 ≤ ((ji11) : Int) := of_decide_eq_true (by first | (with_reducible assumption) | assumption)
             have q288 : (ji11) < (l0.length : Int) := of_decide_eq_true (by first | (with_reducible assumption) | assumption)
             obtain ⟨ad288, e288, hx288_0⟩ := Kd.at_int (Kd.C_kept_now HR0.out HK.out) (ji11) p288 q288
             obtain rfl : ad287 = ad288 := (by injection e288)
             replace p288 := eq_true p288
             replace q288 := eq_true q288
             go_wp2_with (first | ((with_reducible refine gate_dst (N := 33) rfl ?_); refine Kd.R_lit (Kd.int .u8) _ 5 ?hg (N := 33) ?hd (xs := ([32, 32] : List Int)) (inner := [.int .u8 32, .int .u8 32]) (ok := fun _ => True) (okp := fun _ => True) ?hr ?hp (fun _ hk => hk) trivial (Below.refl _ _) (Nat.le_refl _) (by simp) ?_; (case hd => rfl); (case hg => rfl); (case hr => first | (go_simp; done) | (go_simp; rfl)); (case hp => exact (Reps.one (show Kd.M (Kd.int .u8) _ _ _ 32 [.int .u8 32] from rfl) (Reps.one (show Kd.M (Kd.int .u8) _ _ _ 32 [.int .u8 32] from rfl) (Reps.none _ _)))); intro v290 w16 ho17 hb hg_ hnew_; clear hg_ hnew_; (first | rw [← Ny289.out] at ho17 | (simp only [Int.reduceToNat] at ho17; rw [← Ny289.out] at ho17)); have n0_ := Aside0.mk (Kd.R_elder' (by (with_reducible repeat (first | apply Kd.R_alloc | apply Kd.R_drewN | apply Kd.R_drew)); exact HO_1.out) (Kd.R_base ho17) hb); have n1_ := Aside0.mk (Kd.R_lower (Kd.R_new' (Kd.R_newM (M := fun k_ => (P1_ k_ ∨ w.heap.size ≤ k_)) ho17 (by first | exact HK.out.1 | exact (show Kept w _ (fun k_ => P1_ k_) from by repeat (first | (with_reducible first | exact HK.out | apply Kept.alloc | apply Kept.drewN | apply Kept.drew) | exact HK.out)).1) (fun k_ h_ => .inr h_)) (Kd.R_lt (by (with_reducible repeat (first | apply Kd.R_alloc | apply Kd.R_drewN | apply Kd.R_drew)); exact HO_1.out))) (below_size (by repeat (first | (with_reducible first | exact HB.out | apply below_alloc | apply pw_below_drewN | apply below_drew1) | exact HB.out)))); have n2_ := Aside0.mk (Kept.below (S := (fun k_ => P1_ k_)) (by repeat (first | (with_reducible first | exact HK.out | apply Kept.alloc | apply Kept.drewN | apply Kept.drew) | exact HK.out)) hb); have n3_ := Aside0.mk (below_step (by repeat (first | (with_reducible first | exact HB.out | apply below_alloc | apply pw_below_drewN | apply below_drew1) | exact HB.out)) hb); clear HO_1; clear HK; clear HB; have HO_1 := n0_; have HO291 := n1_; have HK := n2_; have HB := n3_; clear n0_ n1_ n2_ n3_; clear hb ho17; obtain ⟨Ao19, co19, eo19⟩ := Kd.R_slice HO291.out; subst eo19) | ((with_reducible refine gate_builtin (b := .append) (xs := #[.tmp 32, .tmp 33]) rfl ?_); at_builtin; refine Kd.R_append_rows (Kd.int .u8) (w0 := w0) w0.heap.size rfl (.tmp 32) (.tmp 33) 26 5 (.int .u8 0) 1 rfl Try.underlying26 info5 rfl (by decide) (by omega) u1 x1_1 y289 _ _ _ (fun k_ => (P1_ k_ ∨ w.heap.size ≤ k_) ∧ some k_ ≠ (.slice Ao19 y289.length co19 : Value).ownBlock) (fun _ => False) rfl rfl ?aO ?aR (fun _ _ h => h) (fun _ h => h.elim) ?aF ?aB ?aS ?aL ?_; (case aR => repeat (first | exact (Kd.R_reads' HO291.out).2.2 | (with_reducible refine Kd.C_alloc ?_ _) | (with_reducible refine Kd.C_drewN ?_ _) | (with_reducible refine Kd.C_drew ?_))); (case aB => exact (by repeat (first | (with_reducible first | exact HB.out | apply below_alloc | apply pw_below_drewN | apply below_drew1) | exact HB.out))); (case aF => exact (fun k_ hk => ⟨(.inr (Nat.le_trans (by first | exact HK.out.1 | exact (show Kept w _ (fun k_ => P1_ k_) from by repeat (first | (with_reducible first | exact HK.out | apply Kept.alloc | apply Kept.drewN | apply Kept.drew) | exact HK.out)).1) hk)), Kd.fresh' (Kd.R_lt (by (with_reducible repeat (first | apply Kd.R_alloc | apply Kd.R_drewN | apply Kd.R_drew)); exact HO291.out)) k_ hk⟩)); (case aO => exact (by (with_reducible repeat (first | apply Kd.R_alloc | apply Kd.R_drewN | apply Kd.R_drew)); exact HO_1.out)); (case aS => exact (below_size (by repeat (first | (with_reducible first | exact HB.out | apply below_alloc | apply pw_below_drewN | apply below_drew1) | exact HB.out)))); (case aL => have := LMc15.out; omega); intro v293 w18 ho hb hg hat; rw [← Ny292.out] at ho; have n0_ := Aside0.mk (Kd.R_after (ok := (fun k_ => (P1_ k_ ∨ w.heap.size ≤ k_))) (by (with_reducible repeat (first | apply Kd.R_alloc | apply Kd.R_drewN | apply Kd.R_drew)); exact Kd.R_mono HO291.out (fun _ hk => ⟨hk.1.1, hk.2⟩)) hg hat); have n1_ := Aside0.mk (hb); have n2_ := Aside0.mk (Kept.of_grown (S := (fun k_ => P1_ k_)) hg (by repeat (first | (with_reducible first | exact HK.out | apply Kept.alloc | apply Kept.drewN | apply Kept.drew) | exact HK.out)) (fun k_ e_ => (HO_1.out.1 k_ e_).1)); have n3_ := Aside0.mk (ho); clear HO291; clear HB; clear HK; clear HO_1; have HO291 := n0_; have HB := n1_; have HK := n2_; have HO294 := n3_; clear n0_ n1_ n2_ n3_; clear ho hb hg hat))
             try simp only [Act.put, List.setIfInBounds_toArray, List.set_cons_succ, List.set_cons_zero]
             go_loopg [1, 5] k1 (fun kq v1 v5 w' => ∃ (x1_2 : List Int) (x5_2 : Int), v5 = .int .i64 x5_2 ∧ Aside0 (pretty_spec.l1 kq l0 x1_2 x5_2 = some r) ∧ Aside0 (kq ≤ k1) ∧ Aside0 (Kd.R (Kd.int .u8) 5 w' w0.heap.size (fun k_ => (P1_ k_ ∨ w.heap.size ≤ k_)) v1 x1_2) ∧ Aside0 (Kept w w' (fun k_ => P1_ k_)) ∧ Aside0 (Below w0.heap.size w0 w'))
             case atStart => exact ⟨(y292), (wrap64 (x5_1 + 2)), (by first | rfl | (simp; done) | (simp [*]; done) | (simp; rw [Bool.eq_iff_iff]; simp; done)), H', ⟨Nat.le_refl _⟩, ⟨by (with_reducible repeat (first | apply Kd.R_alloc | apply Kd.R_drewN | apply Kd.R_drew)); exact Kd.R_mono HO294.out (fun _ hk => hk.1)⟩, ⟨by repeat (first | (with_reducible first | exact HK.out | apply Kept.alloc | apply Kept.drewN | apply Kept.drew) | exact HK.out)⟩, ⟨by repeat (first | (with_reducible first | exact HB.out | apply below_alloc | apply pw_below_drewN | apply below_drew1) | exact HB.out)⟩⟩
             case round =>
              as_aux_lemma =>
              clear H'
              (try clear c1); (try clear p2); (try clear q2); (try clear hx2); (try clear c3); (try clear c3b0); (try clear c3b1); (try clear q5); (try clear c6); (try clear c6b0); (try clear p6); (try clear c7); (try clear c7b0); (try clear c9); (try clear c9b0); (try clear c9b1); (try clear c10); (try clear c10b0); (try clear c12); (try clear c12b0); (try clear c13); (try clear c13b0); (try clear c14); (try clear c14b0); (try clear c14b1); (try clear c15); (try clear c16); (try clear hx287_0); (try clear hx288_0); (try clear p2); (try clear p287); (try clear p288); (try clear q287); (try clear q288); (try clear q5)
              obtain ⟨x1_2, x5_2, rfl, HA, HK2, HO_1, HK, HB⟩ := hrel
              cases gk with
              | zero => exact absurd HA.out (by simp [pretty_spec.l1])
              | succ k2 =>
               have H := HA.out
               clear HA
               simp only [pretty_spec.l1] at H
               by_cases c20 : x5_2 < (l0.length : Int)
               ·
                rw [if_pos c20] at H
                have c20b0 : decide (x5_2 < (l0.length : Int)) = true := decide_eq_true c20
                clear c20
                by_cases c21 : 0 ≤ x5_2
                ·
                 rw [if_pos c21] at H
                 have c21b0 : decide (0 ≤ x5_2) = true := decide_eq_true c21
                 clear c21
                 by_cases c22 : (rd l0 x5_2) = 10
                 ·
                  rw [if_pos c22] at H
                  have c22b0 : ((rd l0 x5_2) == 10) = true := beq_iff_eq.mpr c22
                  have c22b1 : ((rd l0 x5_2) != 10) = false := bne_eq_false_iff_eq.mpr c22
                  clear c22
                  by_cases c23 : x1_2.length < 140737488355328
                  ·
                   rw [if_pos c23] at H
                   have LMc23 := Aside0.mk c23
                   clear c23
                   obtain ⟨y296, hy296⟩ : ∃ y_ : List Int, y_ = (x1_2 ++ [10]) := ⟨_, rfl⟩
                   replace H : (pretty_spec.l0 k2 l0 y296 (wrap64 (x5_2 + 1))) = some r := by first | (rw [hy296]; with_reducible exact H) | (have H2_ := (Option.bind_some _ _).symm.trans H; rw [hy296]; with_reducible exact H2_) | (have H2_ := (Option.bind_some _ _).symm.trans H; with_reducible exact H2_) | with_reducible exact H | (rw [hy296]; exact H) | exact H
                   have Ny296 := Aside0.mk hy296
                   clear hy296
                   have H' := Aside0.mk H
                   clear H
                   have p295 : 0 ≤ (x5_2 : Int) := of_decide_eq_true (by first | (with_reducible assumption) | assumption)
                   have q295 : x5_2 < (l0.length : Int) := of_decide_eq_true (by first | (with_reducible assumption) | assumption)
                   obtain ⟨ad295, e295, hx295_0⟩ := Kd.at_int (Kd.C_kept_now HR0.out HK.out) x5_2 p295 q295
                   obtain rfl : ad287 = ad295 := (by injection e295)
                   replace p295 := eq_true p295
                   replace q295 := eq_true q295
                   go_wp2_with (first | ((with_reducible refine gate_builtin (b := .append) (xs := #[.tmp 48, .tmp 49]) rfl ?_); at_builtin; refine Kd.R_append (Kd.int .u8) (w0 := w0) w0.heap.size rfl (.tmp 48) (.tmp 49) 26 5 (.int .u8 0) 1 rfl Try.underlying26 info5 rfl (by decide) (by omega) u1 x1_2 10 [.int .u8 10] (fun k_ => (P1_ k_ ∨ w.heap.size ≤ k_)) (fun _ => False) rfl rfl ?aP (fun _ hk => hk.elim) ?aF ?aO ?aB ?aS ?aL ?_; (case aP => exact rfl); (case aB => exact (by repeat (first | (with_reducible first | exact HB.out | apply below_alloc | apply pw_below_drewN | apply below_drew1) | exact HB.out))); (case aF => exact (fun k_ hk => (.inr (Nat.le_trans (by first | exact HK.out.1 | exact (show Kept w _ (fun k_ => P1_ k_) from by repeat (first | (with_reducible first | exact HK.out | apply Kept.alloc | apply Kept.drewN | apply Kept.drew) | exact HK.out)).1) hk)))); (case aO => exact (by (with_reducible repeat (first | apply Kd.R_alloc | apply Kd.R_drewN | apply Kd.R_drew)); exact HO_1.out)); (case aS => exact (below_size (by repeat (first | (with_reducible first | exact HB.out | apply below_alloc | apply pw_below_drewN | apply below_drew1) | exact HB.out)))); (case aL => have := LMc23.out; omega); intro v297 w24 ho hb hg hat; rw [← Ny296.out] at ho; have n0_ := Aside0.mk (hb); have n1_ := Aside0.mk (Kept.of_grown (S := (fun k_ => P1_ k_)) hg (by repeat (first | (with_reducible first | exact HK.out | apply Kept.alloc | apply Kept.drewN | apply Kept.drew) | exact HK.out)) (fun k_ e_ => (HO_1.out.1 k_ e_))); have n2_ := Aside0.mk (ho); clear HB; clear HK; clear HO_1; have HB := n0_; have HK := n1_; have HO298 := n2_; clear n0_ n1_ n2_; clear ho hb hg hat))
                   go_roundg k2
                   case measure => have := HK1.out; have := HK2.out; omega
                   case rel => exact ⟨(y296), (wrap64 (x5_2 + 1)), (by first | rfl | (simp; done) | (simp [*]; done) | (simp; rw [Bool.eq_iff_iff]; simp; done)), H', ⟨by have := HK1.out; have := HK2.out; omega⟩, ⟨by (with_reducible repeat (first | apply Kd.R_alloc | apply Kd.R_drewN | apply Kd.R_drew)); exact HO298.out⟩, ⟨by repeat (first | (with_reducible first | exact HK.out | apply Kept.alloc | apply Kept.drewN | apply Kept.drew) | exact HK.out)⟩, ⟨by repeat (first | (with_reducible first | exact HB.out | apply below_alloc | apply pw_below_drewN | apply below_drew1) | exact HB.out)⟩⟩
                  ·
                   rw [if_neg c23] at H
                   exact absurd H (by simp)
                 ·
                  rw [if_neg c22] at H
                  have c22b0 : ((rd l0 x5_2) == 10) = false := beq_eq_false_iff_ne.mpr c22
                  have c22b1 : ((rd l0 x5_2) != 10) = true := bne_iff_ne.mpr c22
                  by_cases c25 : (rd l0 x5_2) = 9
                  ·
                   rw [if_pos c25] at H
                   have c25b0 : ((rd l0 x5_2) == 9) = true := beq_iff_eq.mpr c25
                   have c25b1 : ((rd l0 x5_2) != 9) = false := bne_eq_false_iff_eq.mpr c25
                   clear c25
                   by_cases c26 : x1_2.length < 140737488355328
                   ·
                    rw [if_pos c26] at H
                    have LMc26 := Aside0.mk c26
                    clear c26
                    obtain ⟨y301, hy301⟩ : ∃ y_ : List Int, y_ = (x1_2 ++ [rd l0 x5_2]) := ⟨_, rfl⟩
                    replace H : (pretty_spec.l1 k2 l0 y301 (wrap64 (x5_2 + 1))) = some r := by first | (rw [hy301]; with_reducible exact H) | (have H2_ := (Option.bind_some _ _).symm.trans H; rw [hy301]; with_reducible exact H2_) | (have H2_ := (Option.bind_some _ _).symm.trans H; with_reducible exact H2_) | with_reducible exact H | (rw [hy301]; exact H) | exact H
                    have Ny301 := Aside0.mk hy301
                    clear hy301
                    have H' := Aside0.mk H
                    clear H
                    have p295 : 0 ≤ (x5_2 : Int) := of_decide_eq_true (by first | (with_reducible assumption) | assumption)
                    have q295 : x5_2 < (l0.length : Int) := of_decide_eq_true (by first | (with_reducible assumption) | assumption)
                    obtain ⟨ad295, e295, hx295_0⟩ := Kd.at_int (Kd.C_kept_now HR0.out HK.out) x5_2 p295 q295
                    obtain rfl : ad287 = ad295 := (by injection e295)
                    replace p295 := eq_true p295
                    replace q295 := eq_true q295
                    have p299 : 0 ≤ (x5_2 : Int) := of_decide_eq_true (by first | (with_reducible assumption) | assumption)
                    have q299 : x5_2 < (l0.length : Int) := of_decide_eq_true (by first | (with_reducible assumption) | assumption)
                    obtain ⟨ad299, e299, hx299_0⟩ := Kd.at_int (Kd.C_kept_now HR0.out HK.out) x5_2 p299 q299
                    obtain rfl : ad287 = ad299 := (by injection e299)
                    replace p299 := eq_true p299
                    replace q299 := eq_true q299
                    have p300 : 0 ≤ (x5_2 : Int) := of_decide_eq_true (by first | (with_reducible assumption) | assumption)
                    have q300 : x5_2 < (l0.length : Int) := of_decide_eq_true (by first | (with_reducible assumption) | assumption)
                    obtain ⟨ad300, e300, hx300_0⟩ := Kd.at_int (Kd.C_kept_now HR0.out HK.out) x5_2 p300 q300
                    obtain rfl : ad287 = ad300 := (by injection e300)
                    replace p300 := eq_true p300
                    replace q300 := eq_true q300
                    go_wp2_with (first | ((with_reducible refine gate_builtin (b := .append) (xs := #[.tmp 63, .tmp 68]) rfl ?_); at_builtin; refine Kd.R_append (Kd.int .u8) (w0 := w0) w0.heap.size rfl (.tmp 63) (.tmp 68) 26 5 (.int .u8 0) 1 rfl Try.underlying26 info5 rfl (by decide) (by omega) u1 x1_2 (rd l0 x5_2) [.int .u8 (rd l0 x5_2)] (fun k_ => (P1_ k_ ∨ w.heap.size ≤ k_)) (fun _ => False) rfl rfl ?aP (fun _ hk => hk.elim) ?aF ?aO ?aB ?aS ?aL ?_; (case aP => exact rfl); (case aB => exact (by repeat (first | (with_reducible first | exact HB.out | apply below_alloc | apply pw_below_drewN | apply below_drew1) | exact HB.out))); (case aF => exact (fun k_ hk => (.inr (Nat.le_trans (by first | exact HK.out.1 | exact (show Kept w _ (fun k_ => P1_ k_) from by repeat (first | (with_reducible first | exact HK.out | apply Kept.alloc | apply Kept.drewN | apply Kept.drew) | exact HK.out)).1) hk)))); (case aO => exact (by (with_reducible repeat (first | apply Kd.R_alloc | apply Kd.R_drewN | apply Kd.R_drew)); exact HO_1.out)); (case aS => exact (below_size (by repeat (first | (with_reducible first | exact HB.out | apply below_alloc | apply pw_below_drewN | apply below_drew1) | exact HB.out)))); (case aL => have := LMc26.out; omega); intro v302 w27 ho hb hg hat; rw [← Ny301.out] at ho; have n0_ := Aside0.mk (hb); have n1_ := Aside0.mk (Kept.of_grown (S := (fun k_ => P1_ k_)) hg (by repeat (first | (with_reducible first | exact HK.out | apply Kept.alloc | apply Kept.drewN | apply Kept.drew) | exact HK.out)) (fun k_ e_ => (HO_1.out.1 k_ e_))); have n2_ := Aside0.mk (ho); clear HB; clear HK; clear HO_1; have HB := n0_; have HK := n1_; have HO303 := n2_; clear n0_ n1_ n2_; clear ho hb hg hat))
                    go_roundg k2
                    case measure => have := HK1.out; have := HK2.out; omega
                    case rel => exact ⟨(y301), (wrap64 (x5_2 + 1)), (by first | rfl | (simp; done) | (simp [*]; done) | (simp; rw [Bool.eq_iff_iff]; simp; done)), H', ⟨by have := HK1.out; have := HK2.out; omega⟩, ⟨by (with_reducible repeat (first | apply Kd.R_alloc | apply Kd.R_drewN | apply Kd.R_drew)); exact HO303.out⟩, ⟨by repeat (first | (with_reducible first | exact HK.out | apply Kept.alloc | apply Kept.drewN | apply Kept.drew) | exact HK.out)⟩, ⟨by repeat (first | (with_reducible first | exact HB.out | apply below_alloc | apply pw_below_drewN | apply below_drew1) | exact HB.out)⟩⟩
                   ·
                    rw [if_neg c26] at H
                    exact absurd H (by simp)
                  ·
                   rw [if_neg c25] at H
                   have c25b0 : ((rd l0 x5_2) == 9) = false := beq_eq_false_iff_ne.mpr c25
                   have c25b1 : ((rd l0 x5_2) != 9) = true := bne_iff_ne.mpr c25
                   by_cases c28 : (rd l0 x5_2) = 13
                   ·
                    rw [if_pos c28] at H
                    have c28b0 : ((rd l0 x5_2) == 13) = true := beq_iff_eq.mpr c28
                    have c28b1 : ((rd l0 x5_2) != 13) = false := bne_eq_false_iff_eq.mpr c28
                    clear c28
                    by_cases c29 : x1_2.length < 140737488355328
                    ·
                     rw [if_pos c29] at H
                     have LMc29 := Aside0.mk c29
                     clear c29
                     obtain ⟨y306, hy306⟩ : ∃ y_ : List Int, y_ = (x1_2 ++ [rd l0 x5_2]) := ⟨_, rfl⟩
                     replace H : (pretty_spec.l1 k2 l0 y306 (wrap64 (x5_2 + 1))) = some r := by first | (rw [hy306]; with_reducible exact H) | (have H2_ := (Option.bind_some _ _).symm.trans H; rw [hy306]; with_reducible exact H2_) | (have H2_ := (Option.bind_some _ _).symm.trans H; with_reducible exact H2_) | with_reducible exact H | (rw [hy306]; exact H) | exact H
                     have Ny306 := Aside0.mk hy306
                     clear hy306
                     have H' := Aside0.mk H
                     clear H
                     have p295 : 0 ≤ (x5_2 : Int) := of_decide_eq_true (by first | (with_reducible assumption) | assumption)
                     have q295 : x5_2 < (l0.length : Int) := of_decide_eq_true (by first | (with_reducible assumption) | assumption)
                     obtain ⟨ad295, e295, hx295_0⟩ := Kd.at_int (Kd.C_kept_now HR0.out HK.out) x5_2 p295 q295
                     obtain rfl : ad287 = ad295 := (by injection e295)
                     replace p295 := eq_true p295
                     replace q295 := eq_true q295
                     have p299 : 0 ≤ (x5_2 : Int) := of_decide_eq_true (by first | (with_reducible assumption) | assumption)
                     have q299 : x5_2 < (l0.length : Int) := of_decide_eq_true (by first | (with_reducible assumption) | assumption)
                     obtain ⟨ad299, e299, hx299_0⟩ := Kd.at_int (Kd.C_kept_now HR0.out HK.out) x5_2 p299 q299
                     obtain rfl : ad287 = ad299 := (by injection e299)
                     replace p299 := eq_true p299
                     replace q299 := eq_true q299
                     have p304 : 0 ≤ (x5_2 : Int) := of_decide_eq_true (by first | (with_reducible assumption) | assumption)
                     have q304 : x5_2 < (l0.length : Int) := of_decide_eq_true (by first | (with_reducible assumption) | assumption)
                     obtain ⟨ad304, e304, hx304_0⟩ := Kd.at_int (Kd.C_kept_now HR0.out HK.out) x5_2 p304 q304
                     obtain rfl : ad287 = ad304 := (by injection e304)
                     replace p304 := eq_true p304
                     replace q304 := eq_true q304
                     have p305 : 0 ≤ (x5_2 : Int) := of_decide_eq_true (by first | (with_reducible assumption) | assumption)
                     have q305 : x5_2 < (l0.length : Int) := of_decide_eq_true (by first | (with_reducible assumption) | assumption)
                     obtain ⟨ad305, e305, hx305_0⟩ := Kd.at_int (Kd.C_kept_now HR0.out HK.out) x5_2 p305 q305
                     obtain rfl : ad287 = ad305 := (by injection e305)
                     replace p305 := eq_true p305
                     replace q305 := eq_true q305
                     go_wp2_with (first | ((with_reducible refine gate_builtin (b := .append) (xs := #[.tmp 63, .tmp 68]) rfl ?_); at_builtin; refine Kd.R_append (Kd.int .u8) (w0 := w0) w0.heap.size rfl (.tmp 63) (.tmp 68) 26 5 (.int .u8 0) 1 rfl Try.underlying26 info5 rfl (by decide) (by omega) u1 x1_2 (rd l0 x5_2) [.int .u8 (rd l0 x5_2)] (fun k_ => (P1_ k_ ∨ w.heap.size ≤ k_)) (fun _ => False) rfl rfl ?aP (fun _ hk => hk.elim) ?aF ?aO ?aB ?aS ?aL ?_; (case aP => exact rfl); (case aB => exact (by repeat (first | (with_reducible first | exact HB.out | apply below_alloc | apply pw_below_drewN | apply below_drew1) | exact HB.out))); (case aF => exact (fun k_ hk => (.inr (Nat.le_trans (by first | exact HK.out.1 | exact (show Kept w _ (fun k_ => P1_ k_) from by repeat (first | (with_reducible first | exact HK.out | apply Kept.alloc | apply Kept.drewN | apply Kept.drew) | exact HK.out)).1) hk)))); (case aO => exact (by (with_reducible repeat (first | apply Kd.R_alloc | apply Kd.R_drewN | apply Kd.R_drew)); exact HO_1.out)); (case aS => exact (below_size (by repeat (first | (with_reducible first | exact HB.out | apply below_alloc | apply pw_below_drewN | apply below_drew1) | exact HB.out)))); (case aL => have := LMc29.out; omega); intro v307 w30 ho hb hg hat; rw [← Ny306.out] at ho; have n0_ := Aside0.mk (hb); have n1_ := Aside0.mk (Kept.of_grown (S := (fun k_ => P1_ k_)) hg (by repeat (first | (with_reducible first | exact HK.out | apply Kept.alloc | apply Kept.drewN | apply Kept.drew) | exact HK.out)) (fun k_ e_ => (HO_1.out.1 k_ e_))); have n2_ := Aside0.mk (ho); clear HB; clear HK; clear HO_1; have HB := n0_; have HK := n1_; have HO308 := n2_; clear n0_ n1_ n2_; clear ho hb hg hat))
                     go_roundg k2
                     case measure => have := HK1.out; have := HK2.out; omega
                     case rel => exact ⟨(y306), (wrap64 (x5_2 + 1)), (by first | rfl | (simp; done) | (simp [*]; done) | (simp; rw [Bool.eq_iff_iff]; simp; done)), H', ⟨by have := HK1.out; have := HK2.out; omega⟩, ⟨by (with_reducible repeat (first | apply Kd.R_alloc | apply Kd.R_drewN | apply Kd.R_drew)); exact HO308.out⟩, ⟨by repeat (first | (with_reducible first | exact HK.out | apply Kept.alloc | apply Kept.drewN | apply Kept.drew) | exact HK.out)⟩, ⟨by repeat (first | (with_reducible first | exact HB.out | apply below_alloc | apply pw_below_drewN | apply below_drew1) | exact HB.out)⟩⟩
                    ·
                     rw [if_neg c29] at H
                     exact absurd H (by simp)
                   ·
                    rw [if_neg c28] at H
                    have c28b0 : ((rd l0 x5_2) == 13) = false := beq_eq_false_iff_ne.mpr c28
                    have c28b1 : ((rd l0 x5_2) != 13) = true := bne_iff_ne.mpr c28
                    by_cases c31 : x1_2.length < 140737488355328
                    ·
                     rw [if_pos c31] at H
                     have LMc31 := Aside0.mk c31
                     clear c31
                     obtain ⟨y309, hy309⟩ : ∃ y_ : List Int, y_ = (x1_2 ++ [32]) := ⟨_, rfl⟩
                     replace H : (pretty_spec.l1 k2 l0 y309 (wrap64 (x5_2 + 1))) = some r := by first | (rw [hy309]; with_reducible exact H) | (have H2_ := (Option.bind_some _ _).symm.trans H; rw [hy309]; with_reducible exact H2_) | (have H2_ := (Option.bind_some _ _).symm.trans H; with_reducible exact H2_) | with_reducible exact H | (rw [hy309]; exact H) | exact H
                     have Ny309 := Aside0.mk hy309
                     clear hy309
                     have H' := Aside0.mk H
                     clear H
                     have p295 : 0 ≤ (x5_2 : Int) := of_decide_eq_true (by first | (with_reducible assumption) | assumption)
                     have q295 : x5_2 < (l0.length : Int) := of_decide_eq_true (by first | (with_reducible assumption) | assumption)
                     obtain ⟨ad295, e295, hx295_0⟩ := Kd.at_int (Kd.C_kept_now HR0.out HK.out) x5_2 p295 q295
                     obtain rfl : ad287 = ad295 := (by injection e295)
                     replace p295 := eq_true p295
                     replace q295 := eq_true q295
                     have p299 : 0 ≤ (x5_2 : Int) := of_decide_eq_true (by first | (with_reducible assumption) | assumption)
                     have q299 : x5_2 < (l0.length : Int) := of_decide_eq_true (by first | (with_reducible assumption) | assumption)
                     obtain ⟨ad299, e299, hx299_0⟩ := Kd.at_int (Kd.C_kept_now HR0.out HK.out) x5_2 p299 q299
                     obtain rfl : ad287 = ad299 := (by injection e299)
                     replace p299 := eq_true p299
                     replace q299 := eq_true q299
                     have p304 : 0 ≤ (x5_2 : Int) := of_decide_eq_true (by first | (with_reducible assumption) | assumption)
                     have q304 : x5_2 < (l0.length : Int) := of_decide_eq_true (by first | (with_reducible assumption) | assumption)
                     obtain ⟨ad304, e304, hx304_0⟩ := Kd.at_int (Kd.C_kept_now HR0.out HK.out) x5_2 p304 q304
                     obtain rfl : ad287 = ad304 := (by injection e304)
                     replace p304 := eq_true p304
                     replace q304 := eq_true q304
                     go_wp2_with (first | ((with_reducible refine gate_builtin (b := .append) (xs := #[.tmp 70, .tmp 71]) rfl ?_); at_builtin; refine Kd.R_append (Kd.int .u8) (w0 := w0) w0.heap.size rfl (.tmp 70) (.tmp 71) 26 5 (.int .u8 0) 1 rfl Try.underlying26 info5 rfl (by decide) (by omega) u1 x1_2 32 [.int .u8 32] (fun k_ => (P1_ k_ ∨ w.heap.size ≤ k_)) (fun _ => False) rfl rfl ?aP (fun _ hk => hk.elim) ?aF ?aO ?aB ?aS ?aL ?_; (case aP => exact rfl); (case aB => exact (by repeat (first | (with_reducible first | exact HB.out | apply below_alloc | apply pw_below_drewN | apply below_drew1) | exact HB.out))); (case aF => exact (fun k_ hk => (.inr (Nat.le_trans (by first | exact HK.out.1 | exact (show Kept w _ (fun k_ => P1_ k_) from by repeat (first | (with_reducible first | exact HK.out | apply Kept.alloc | apply Kept.drewN | apply Kept.drew) | exact HK.out)).1) hk)))); (case aO => exact (by (with_reducible repeat (first | apply Kd.R_alloc | apply Kd.R_drewN | apply Kd.R_drew)); exact HO_1.out)); (case aS => exact (below_size (by repeat (first | (with_reducible first | exact HB.out | apply below_alloc | apply pw_below_drewN | apply below_drew1) | exact HB.out)))); (case aL => have := LMc31.out; omega); intro v310 w32 ho hb hg hat; rw [← Ny309.out] at ho; have n0_ := Aside0.mk (hb); have n1_ := Aside0.mk (Kept.of_grown (S := (fun k_ => P1_ k_)) hg (by repeat (first | (with_reducible first | exact HK.out | apply Kept.alloc | apply Kept.drewN | apply Kept.drew) | exact HK.out)) (fun k_ e_ => (HO_1.out.1 k_ e_))); have n2_ := Aside0.mk (ho); clear HB; clear HK; clear HO_1; have HB := n0_; have HK := n1_; have HO311 := n2_; clear n0_ n1_ n2_; clear ho hb hg hat))
                     go_roundg k2
                     case measure => have := HK1.out; have := HK2.out; omega
                     case rel => exact ⟨(y309), (wrap64 (x5_2 + 1)), (by first | rfl | (simp; done) | (simp [*]; done) | (simp; rw [Bool.eq_iff_iff]; simp; done)), H', ⟨by have := HK1.out; have := HK2.out; omega⟩, ⟨by (with_reducible repeat (first | apply Kd.R_alloc | apply Kd.R_drewN | apply Kd.R_drew)); exact HO311.out⟩, ⟨by repeat (first | (with_reducible first | exact HK.out | apply Kept.alloc | apply Kept.drewN | apply Kept.drew) | exact HK.out)⟩, ⟨by repeat (first | (with_reducible first | exact HB.out | apply below_alloc | apply pw_below_drewN | apply below_drew1) | exact HB.out)⟩⟩
                    ·
                     rw [if_neg c31] at H
                     exact absurd H (by simp)
                ·
                 rw [if_neg c21] at H
                 exact absurd H (by simp)
               ·
                rw [if_neg c20] at H
                have c20b0 : decide (x5_2 < (l0.length : Int)) = false := decide_eq_false c20
                clear c20
                have H' := Aside0.mk H
                clear H
                go_wp2
                go_roundg k2
                case measure => have := HK1.out; have := HK2.out; omega
                case rel => exact ⟨(x1_2), (wrap64 (x5_2 + 1)), (by first | rfl | (simp; done) | (simp [*]; done) | (simp; rw [Bool.eq_iff_iff]; simp; done)), H', ⟨by have := HK1.out; have := HK2.out; omega⟩, ⟨by (with_reducible repeat (first | apply Kd.R_alloc | apply Kd.R_drewN | apply Kd.R_drew)); exact HO_1.out⟩, ⟨by repeat (first | (with_reducible first | exact HK.out | apply Kept.alloc | apply Kept.drewN | apply Kept.drew) | exact HK.out)⟩, ⟨by repeat (first | (with_reducible first | exact HB.out | apply below_alloc | apply pw_below_drewN | apply below_drew1) | exact HB.out)⟩⟩
            ·
             rw [if_neg c15] at H
             exact absurd H (by simp)
           ·
            rw [if_neg c14] at H
            have c14b0 : ((rd l0 (ji11)) == 47) = false := beq_eq_false_iff_ne.mpr c14
            have c14b1 : ((rd l0 (ji11)) != 47) = true := bne_iff_ne.mpr c14
            by_cases c33 : (rd l0 (ji11)) = 42
            ·
             rw [if_pos c33] at H
             have c33b0 : ((rd l0 (ji11)) == 42) = true := beq_iff_eq.mpr c33
             have c33b1 : ((rd l0 (ji11)) != 42) = false := bne_eq_false_iff_eq.mpr c33
             clear c33
             obtain ⟨y313, hy313⟩ : ∃ y_ : List Int, y_ = (([32, 32] : List Int)) := ⟨_, rfl⟩
             replace H : (if x1_1.length + y313.length < 140737488355328 then (pretty_spec.l2 k1 l0 (x1_1 ++ y313) (wrap64 (x5_1 + 2))) else (none)) = some r := by first | (rw [hy313]; with_reducible exact H) | (have H2_ := (Option.bind_some _ _).symm.trans H; rw [hy313]; with_reducible exact H2_) | (have H2_ := (Option.bind_some _ _).symm.trans H; with_reducible exact H2_) | with_reducible exact H | (rw [hy313]; exact H) | exact H
             have Ny313 := Aside0.mk hy313
             clear hy313
             by_cases c34 : x1_1.length + y313.length < 140737488355328
             ·
              rw [if_pos c34] at H
              have LMc34 := Aside0.mk c34
              clear c34
              obtain ⟨y316, hy316⟩ : ∃ y_ : List Int, y_ = (x1_1 ++ y313) := ⟨_, rfl⟩
              replace H : (pretty_spec.l2 k1 l0 y316 (wrap64 (x5_1 + 2))) = some r := by first | (rw [hy316]; with_reducible exact H) | (have H2_ := (Option.bind_some _ _).symm.trans H; rw [hy316]; with_reducible exact H2_) | (have H2_ := (Option.bind_some _ _).symm.trans H; with_reducible exact H2_) | with_reducible exact H | (rw [hy316]; exact H) | exact H
              have Ny316 := Aside0.mk hy316
              clear hy316
              have H' := Aside0.mk H
              clear H
              have p288 : 0 ≤ ((ji11) : Int) := of_decide_eq_true (by first | (with_reducible assumption) | assumption)
              have q288 : (ji11) < (l0.length : Int) := of_decide_eq_true (by first | (with_reducible assumption) | assumption)
              obtain ⟨ad288, e288, hx288_0⟩ := Kd.at_int (Kd.C_kept_now HR0.out HK.out) (ji11) p288 q288
              obtain rfl : ad287 = ad288 := (by injection e288)
              replace p288 := eq_true p288
              replace q288 := eq_true q288
              have p312 : 0 ≤ ((ji11) : Int) := of_decide_eq_true (by first | (with_reducible assumption) | assumption)
              have q312 : (ji11) < (l0.length : Int) := of_decide_eq_true (by first | (with_reducible assumption) | assumption)
              obtain ⟨ad312, e312, hx312_0⟩ := Kd.at_int (Kd.C_kept_now HR0.out HK.out) (ji11) p312 q312
              obtain rfl : ad287 = ad312 := (by injection e312)
              replace p312 := eq_true p312
              replace q312 := eq_true q312
              go_wp2_with (first | ((with_reducible refine gate_dst (N := 80) rfl ?_); refine Kd.R_lit (Kd.int .u8) _ 5 ?hg (N := 80) ?hd (xs := ([32, 32] : List Int)) (inner := [.int .u8 32, .int .u8 32]) (ok := fun _ => True) (okp := fun _ => True) ?hr ?hp (fun _ hk => hk) trivial (Below.refl _ _) (Nat.le_refl _) (by simp) ?_; (case hd => rfl); (case hg => rfl); (case hr => first | (go_simp; done) | (go_simp; rfl)); (case hp => exact (Reps.one (show Kd.M (Kd.int .u8) _ _ _ 32 [.int .u8 32] from rfl) (Reps.one (show Kd.M (Kd.int .u8) _ _ _ 32 [.int .u8 32] from rfl) (Reps.none _ _)))); intro v314 w35 ho36 hb hg_ hnew_; clear hg_ hnew_; (first | rw [← Ny313.out] at ho36 | (simp only [Int.reduceToNat] at ho36; rw [← Ny313.out] at ho36)); have n0_ := Aside0.mk (Kd.R_elder' (by (with_reducible repeat (first | apply Kd.R_alloc | apply Kd.R_drewN | apply Kd.R_drew)); exact HO_1.out) (Kd.R_base ho36) hb); have n1_ := Aside0.mk (Kd.R_lower (Kd.R_new' (Kd.R_newM (M := fun k_ => (P1_ k_ ∨ w.heap.size ≤ k_)) ho36 (by first | exact HK.out.1 | exact (show Kept w _ (fun k_ => P1_ k_) from by repeat (first | (with_reducible first | exact HK.out | apply Kept.alloc | apply Kept.drewN | apply Kept.drew) | exact HK.out)).1) (fun k_ h_ => .inr h_)) (Kd.R_lt (by (with_reducible repeat (first | apply Kd.R_alloc | apply Kd.R_drewN | apply Kd.R_drew)); exact HO_1.out))) (below_size (by repeat (first | (with_reducible first | exact HB.out | apply below_alloc | apply pw_below_drewN | apply below_drew1) | exact HB.out)))); have n2_ := Aside0.mk (Kept.below (S := (fun k_ => P1_ k_)) (by repeat (first | (with_reducible first | exact HK.out | apply Kept.alloc | apply Kept.drewN | apply Kept.drew) | exact HK.out)) hb); have n3_ := Aside0.mk (below_step (by repeat (first | (with_reducible first | exact HB.out | apply below_alloc | apply pw_below_drewN | apply below_drew1) | exact HB.out)) hb); clear HO_1; clear HK; clear HB; have HO_1 := n0_; have HO315 := n1_; have HK := n2_; have HB := n3_; clear n0_ n1_ n2_ n3_; clear hb ho36; obtain ⟨Ao38, co38, eo38⟩ := Kd.R_slice HO315.out; subst eo38) | ((with_reducible refine gate_builtin (b := .append) (xs := #[.tmp 79, .tmp 80]) rfl ?_); at_builtin; refine Kd.R_append_rows (Kd.int .u8) (w0 := w0) w0.heap.size rfl (.tmp 79) (.tmp 80) 26 5 (.int .u8 0) 1 rfl Try.underlying26 info5 rfl (by decide) (by omega) u1 x1_1 y313 _ _ _ (fun k_ => (P1_ k_ ∨ w.heap.size ≤ k_) ∧ some k_ ≠ (.slice Ao38 y313.length co38 : Value).ownBlock) (fun _ => False) rfl rfl ?aO ?aR (fun _ _ h => h) (fun _ h => h.elim) ?aF ?aB ?aS ?aL ?_; (case aR => repeat (first | exact (Kd.R_reads' HO315.out).2.2 | (with_reducible refine Kd.C_alloc ?_ _) | (with_reducible refine Kd.C_drewN ?_ _) | (with_reducible refine Kd.C_drew ?_))); (case aB => exact (by repeat (first | (with_reducible first | exact HB.out | apply below_alloc | apply pw_below_drewN | apply below_drew1) | exact HB.out))); (case aF => exact (fun k_ hk => ⟨(.inr (Nat.le_trans (by first | exact HK.out.1 | exact (show Kept w _ (fun k_ => P1_ k_) from by repeat (first | (with_reducible first | exact HK.out | apply Kept.alloc | apply Kept.drewN | apply Kept.drew) | exact HK.out)).1) hk)), Kd.fresh' (Kd.R_lt (by (with_reducible repeat (first | apply Kd.R_alloc | apply Kd.R_drewN | apply Kd.R_drew)); exact HO315.out)) k_ hk⟩)); (case aO => exact (by (with_reducible repeat (first | apply Kd.R_alloc | apply Kd.R_drewN | apply Kd.R_drew)); exact HO_1.out)); (case aS => exact (below_size (by repeat (first | (with_reducible first | exact HB.out | apply below_alloc | apply pw_below_drewN | apply below_drew1) | exact HB.out)))); (case aL => have := LMc34.out; omega); intro v317 w37 ho hb hg hat; rw [← Ny316.out] at ho; have n0_ := Aside0.mk (Kd.R_after (ok := (fun k_ => (P1_ k_ ∨ w.heap.size ≤ k_))) (by (with_reducible repeat (first | apply Kd.R_alloc | apply Kd.R_drewN | apply Kd.R_drew)); exact Kd.R_mono HO315.out (fun _ hk => ⟨hk.1.1, hk.2⟩)) hg hat); have n1_ := Aside0.mk (hb); have n2_ := Aside0.mk (Kept.of_grown (S := (fun k_ => P1_ k_)) hg (by repeat (first | (with_reducible first | exact HK.out | apply Kept.alloc | apply Kept.drewN | apply Kept.drew) | exact HK.out)) (fun k_ e_ => (HO_1.out.1 k_ e_).1)); have n3_ := Aside0.mk (ho); clear HO315; clear HB; clear HK; clear HO_1; have HO315 := n0_; have HB := n1_; have HK := n2_; have HO318 := n3_; clear n0_ n1_ n2_ n3_; clear ho hb hg hat))
              try simp only [Act.put, List.setIfInBounds_toArray, List.set_cons_succ, List.set_cons_zero]
              go_loopg [1, 5] k1 (fun kq v1 v5 w' => ∃ (x1_2 : List Int) (x5_2 : Int), v5 = .int .i64 x5_2 ∧ Aside0 (pretty_spec.l2 kq l0 x1_2 x5_2 = some r) ∧ Aside0 (kq ≤ k1) ∧ Aside0 (Kd.R (Kd.int .u8) 5 w' w0.heap.size (fun k_ => (P1_ k_ ∨ w.heap.size ≤ k_)) v1 x1_2) ∧ Aside0 (Kept w w' (fun k_ => P1_ k_)) ∧ Aside0 (Below w0.heap.size w0 w'))
              case atStart => exact ⟨(y316), (wrap64 (x5_1 + 2)), (by first | rfl | (simp; done) | (simp [*]; done) | (simp; rw [Bool.eq_iff_iff]; simp; done)), H', ⟨Nat.le_refl _⟩, ⟨by (with_reducible repeat (first | apply Kd.R_alloc | apply Kd.R_drewN | apply Kd.R_drew)); exact Kd.R_mono HO318.out (fun _ hk => hk.1)⟩, ⟨by repeat (first | (with_reducible first | exact HK.out | apply Kept.alloc | apply Kept.drewN | apply Kept.drew) | exact HK.out)⟩, ⟨by repeat (first | (with_reducible first | exact HB.out | apply below_alloc | apply pw_below_drewN | apply below_drew1) | exact HB.out)⟩⟩
              case round =>
               as_aux_lemma =>
               clear H'
               (try clear c1); (try clear c2); (try clear p2); (try clear q2); (try clear hx2); (try clear c3); (try clear c3b0); (try clear c3b1); (try clear p3); (try clear q3); (try clear hx3); (try clear q5); (try clear c6); (try clear c6b0); (try clear p6); (try clear c7); (try clear c7b0); (try clear c9); (try clear c9b0); (try clear c9b1); (try clear c10); (try clear c10b0); (try clear c12); (try clear c12b0); (try clear c13); (try clear c13b0); (try clear c14); (try clear c14b0); (try clear c14b1); (try clear c15); (try clear c16); (try clear c20); (try clear c20b0); (try clear c21); (try clear c21b0); (try clear c22); (try clear c22b0); (try clear c22b1); (try clear c23); (try clear c25); (try clear c25b0); (try clear c25b1); (try clear c26); (try clear c28); (try clear c28b0); (try clear c28b1); (try clear p28); (try clear q28); (try clear hx28); (try clear c29); (try clear p29); (try clear q29); (try clear hx29); (try clear p30); (try clear q30); (try clear hx30); (try clear c31); (try clear p31); (try clear q31); (try clear hx31); (try clear c33); (try clear c33b0); (try clear c33b1); (try clear c34); (try clear hx287_0); (try clear hx288_0); (try clear hx295_0); (try clear hx299_0); (try clear hx300_0); (try clear hx304_0); (try clear hx305_0); (try clear hx312_0); (try clear p2); (try clear p287); (try clear p288); (try clear p295); (try clear p299); (try clear p300); (try clear p304); (try clear p305); (try clear p312); (try clear p6); (try clear q2); (try clear q287); (try clear q288); (try clear q295); (try clear q299); (try clear q300); (try clear q304); (try clear q305); (try clear q312); (try clear q5)
               obtain ⟨x1_2, x5_2, rfl, HA, HK2, HO_1, HK, HB⟩ := hrel
               cases gk with
               | zero => exact absurd HA.out (by simp [pretty_spec.l2])
               | succ k2 =>
                have H := HA.out
                clear HA
                simp only [pretty_spec.l2] at H
                by_cases c39 : x5_2 < (wrap64 ((l0.length : Int) - 1))
                ·
                 rw [if_pos c39] at H
                 have c39b0 : decide (x5_2 < (wrap64 ((l0.length : Int) - 1))) = true := decide_eq_true c39
                 clear c39
                 have HC40 := Aside0.mk H
                 clear H
                 go_upto_region 22 with (fail)
                 go_cut [103] (fun v103 wc => ∃ (kq : Nat) (x103_39 : Bool), v103 = .bool x103_39 ∧ Aside0 (pretty_spec.j3 kq l0 x1_2 x5_2 x103_39 = some r) ∧ Aside0 (kq ≤ k2) ∧ Aside0 (Kd.R (Kd.int .u8) 5 wc w0.heap.size (fun k_ => (P1_ k_ ∨ w.heap.size ≤ k_)) u1 x1_2) ∧ Aside0 (Kept w wc (fun k_ => P1_ k_)) ∧ Aside0 (Below w0.heap.size w0 wc))
                 case first =>
                  as_aux_lemma =>
                  have H := HC40.out
                  clear HC40
                  by_cases c41 : 0 ≤ x5_2
                  ·
                   rw [if_pos c41] at H
                   have c41b0 : decide (0 ≤ x5_2) = true := decide_eq_true c41
                   clear c41
                   (first | rw [c41b0] | (simp only [i64_w, i32_w]; rw [c41b0]) | skip)
                   by_cases c42 : x5_2 < (l0.length : Int)
                   ·
                    rw [if_pos c42] at H
                    have c42b0 : decide (x5_2 < (l0.length : Int)) = true := decide_eq_true c42
                    clear c42
                    by_cases c43 : (rd l0 x5_2) = 42
                    ·
                     rw [if_pos c43] at H
                     have c43b0 : ((rd l0 x5_2) == 42) = true := beq_iff_eq.mpr c43
                     have c43b1 : ((rd l0 x5_2) != 42) = false := bne_eq_false_iff_eq.mpr c43
                     clear c43
                     obtain ⟨ji44, hji44⟩ : ∃ j_ : Int, (wrap64 (x5_2 + 1)) = j_ := ⟨_, rfl⟩
                     replace H : (if 0 ≤ (ji44) then (if (ji44) < (l0.length : Int) then (pretty_spec.j3 k2 l0 x1_2 x5_2 ((rd l0 (ji44)) == 47)) else (none)) else (none)) = some r := by first | (rw [hji44] at H; exact H) | (simp only [hji44] at H ⊢; exact H)
                     have hji44w : (IntKind.i64.wrap (x5_2 + 1)) = ji44 := (i64_w _).trans hji44
                     by_cases c45 : 0 ≤ (ji44)
                     ·
                      rw [if_pos c45] at H
                      have c45b0 : decide (0 ≤ (ji44)) = true := decide_eq_true c45
                      clear c45
                      by_cases c46 : (ji44) < (l0.length : Int)
                      ·
                       rw [if_pos c46] at H
                       have c46b0 : decide ((ji44) < (l0.length : Int)) = true := decide_eq_true c46
                       clear c46
                       have H' := Aside0.mk H
                       clear H
                       have p319 : 0 ≤ (x5_2 : Int) := of_decide_eq_true (by first | (with_reducible assumption) | assumption)
                       have q319 : x5_2 < (l0.length : Int) := of_decide_eq_true (by first | (with_reducible assumption) | assumption)
                       obtain ⟨ad319, e319, hx319_0⟩ := Kd.at_int (Kd.C_kept_now HR0.out HK.out) x5_2 p319 q319
                       obtain rfl : ad287 = ad319 := (by injection e319)
                       replace p319 := eq_true p319
                       replace q319 := eq_true q319
                       have p320 : 0 ≤ ((ji44) : Int) := of_decide_eq_true (by first | (with_reducible assumption) | assumption)
                       have q320 : (ji44) < (l0.length : Int) := of_decide_eq_true (by first | (with_reducible assumption) | assumption)
                       obtain ⟨ad320, e320, hx320_0⟩ := Kd.at_int (Kd.C_kept_now HR0.out HK.out) (ji44) p320 q320
                       obtain rfl : ad287 = ad320 := (by injection e320)
                       replace p320 := eq_true p320
                       replace q320 := eq_true q320
                       go_wp2
                       go_meet
                       case rel => exact ⟨_, (((rd l0 (ji44)) == 47)), (by first | rfl | (simp; done) | (simp only [← hji44] <;> (first | rfl | simp)) | (simp [*]; done)), H', ⟨by have := HK1.out; have := HK2.out; first | omega | exact Nat.le_refl _⟩, ⟨by (with_reducible repeat (first | apply Kd.R_alloc | apply Kd.R_drewN | apply Kd.R_drew)); exact HO_1.out⟩, ⟨by repeat (first | (with_reducible first | exact HK.out | apply Kept.alloc | apply Kept.drewN | apply Kept.drew) | exact HK.out)⟩, ⟨by repeat (first | (with_reducible first | exact HB.out | apply below_alloc | apply pw_below_drewN | apply below_drew1) | exact HB.out)⟩⟩
                      ·
                       rw [if_neg c46] at H
                       exact absurd H (by simp)
                     ·
                      rw [if_neg c45] at H
                      exact absurd H (by simp)
                    ·
                     rw [if_neg c43] at H
                     have c43b0 : ((rd l0 x5_2) == 42) = false := beq_eq_false_iff_ne.mpr c43
                     have c43b1 : ((rd l0 x5_2) != 42) = true := bne_iff_ne.mpr c43
                     have H' := Aside0.mk H
                     clear H
                     have p319 : 0 ≤ (x5_2 : Int) := of_decide_eq_true (by first | (with_reducible assumption) | assumption)
                     have q319 : x5_2 < (l0.length : Int) := of_decide_eq_true (by first | (with_reducible assumption) | assumption)
                     obtain ⟨ad319, e319, hx319_0⟩ := Kd.at_int (Kd.C_kept_now HR0.out HK.out) x5_2 p319 q319
                     obtain rfl : ad287 = ad319 := (by injection e319)
                     replace p319 := eq_true p319
                     replace q319 := eq_true q319
                     go_wp2
                     go_meet
                     case rel => exact ⟨_, (false), (by first | rfl | (simp; done) | (simp [*]; done) | (simp; rw [Bool.eq_iff_iff]; simp; done)), H', ⟨by have := HK1.out; have := HK2.out; first | omega | exact Nat.le_refl _⟩, ⟨by (with_reducible repeat (first | apply Kd.R_alloc | apply Kd.R_drewN | apply Kd.R_drew)); exact HO_1.out⟩, ⟨by repeat (first | (with_reducible first | exact HK.out | apply Kept.alloc | apply Kept.drewN | apply Kept.drew) | exact HK.out)⟩, ⟨by repeat (first | (with_reducible first | exact HB.out | apply below_alloc | apply pw_below_drewN | apply below_drew1) | exact HB.out)⟩⟩
                   ·
                    rw [if_neg c42] at H
                    exact absurd H (by simp)
                  ·
                   rw [if_neg c41] at H
                   exact absurd H (by simp)
                 case rest =>
                  as_aux_lemma =>
                  clear HC40
                  (try clear c1); (try clear c2); (try clear p2); (try clear q2); (try clear hx2); (try clear c3); (try clear c3b0); (try clear c3b1); (try clear p3); (try clear q3); (try clear hx3); (try clear c4); (try clear q5); (try clear c6); (try clear c6b0); (try clear p6); (try clear c7); (try clear c7b0); (try clear c9); (try clear c9b0); (try clear c9b1); (try clear c10); (try clear c10b0); (try clear c12); (try clear c12b0); (try clear c13); (try clear c13b0); (try clear c14); (try clear c14b0); (try clear c14b1); (try clear c15); (try clear c16); (try clear c20); (try clear c20b0); (try clear c21); (try clear c21b0); (try clear c22); (try clear c22b0); (try clear c22b1); (try clear c23); (try clear c25); (try clear c25b0); (try clear c25b1); (try clear c26); (try clear c28); (try clear c28b0); (try clear c28b1); (try clear p28); (try clear q28); (try clear hx28); (try clear c29); (try clear p29); (try clear q29); (try clear hx29); (try clear p30); (try clear q30); (try clear hx30); (try clear c31); (try clear p31); (try clear q31); (try clear hx31); (try clear p32); (try clear q32); (try clear hx32); (try clear c33); (try clear c33b0); (try clear c33b1); (try clear c34); (try clear c39); (try clear c39b0); (try clear c41); (try clear c41b0); (try clear c42); (try clear c42b0); (try clear c43); (try clear c43b0); (try clear c43b1); (try clear c45); (try clear c45b0); (try clear c46); (try clear c46b0); (try clear hx287_0); (try clear hx288_0); (try clear hx295_0); (try clear hx299_0); (try clear hx300_0); (try clear hx304_0); (try clear hx305_0); (try clear hx312_0); (try clear hx319_0); (try clear hx320_0); (try clear p2); (try clear p28); (try clear p287); (try clear p288); (try clear p29); (try clear p295); (try clear p299); (try clear p3); (try clear p30); (try clear p300); (try clear p304); (try clear p305); (try clear p31); (try clear p312); (try clear p319); (try clear p320); (try clear p6); (try clear q2); (try clear q28); (try clear q287); (try clear q288); (try clear q29); (try clear q295); (try clear q299); (try clear q3); (try clear q30); (try clear q300); (try clear q304); (try clear q305); (try clear q31); (try clear q312); (try clear q319); (try clear q320); (try clear q5)
                  obtain ⟨kq, x103_39, rfl, HA, HJ39, HO_1, HK, HB⟩ := hcut
                  cases kq with
                  | zero => exact absurd HA.out (by simp [pretty_spec.j3])
                  | succ kj39 =>
                   have H := HA.out
                   clear HA
                   simp only [pretty_spec.j3] at H
                   by_cases c47 : x103_39 = true
                   ·
                    subst c47
                    have H1 : ((some (([32, 32] : List Int) : List Int)).bind fun y321 => (if x1_2.length + y321.length < 140737488355328 then (pretty_spec.l0 kj39 l0 (x1_2 ++ y321) (wrap64 ((wrap64 (x5_2 + 1)) + 1))) else (none))) = some r := by rw [if_pos rfl] at H; exact H
                    clear H
                    have H := H1
                    clear H1
                    obtain ⟨y321, hy321⟩ : ∃ y_ : List Int, y_ = (([32, 32] : List Int)) := ⟨_, rfl⟩
                    replace H : (if x1_2.length + y321.length < 140737488355328 then (pretty_spec.l0 kj39 l0 (x1_2 ++ y321) (wrap64 ((wrap64 (x5_2 + 1)) + 1))) else (none)) = some r := by first | (rw [hy321]; with_reducible exact H) | (have H2_ := (Option.bind_some _ _).symm.trans H; rw [hy321]; with_reducible exact H2_) | (have H2_ := (Option.bind_some _ _).symm.trans H; with_reducible exact H2_) | with_reducible exact H | (rw [hy321]; exact H) | exact H
                    have Ny321 := Aside0.mk hy321
                    clear hy321
                    by_cases c48 : x1_2.length + y321.length < 140737488355328
                    ·
                     rw [if_pos c48] at H
                     have LMc48 := Aside0.mk c48
                     clear c48
                     obtain ⟨y324, hy324⟩ : ∃ y_ : List Int, y_ = (x1_2 ++ y321) := ⟨_, rfl⟩
                     replace H : (pretty_spec.l0 kj39 l0 y324 (wrap64 ((wrap64 (x5_2 + 1)) + 1))) = some r := by first | (rw [hy324]; with_reducible exact H) | (have H2_ := (Option.bind_some _ _).symm.trans H; rw [hy324]; with_reducible exact H2_) | (have H2_ := (Option.bind_some _ _).symm.trans H; with_reducible exact H2_) | with_reducible exact H | (rw [hy324]; exact H) | exact H
                     have Ny324 := Aside0.mk hy324
                     clear hy324
                     have H' := Aside0.mk H
                     clear H
                     go_wp2_with (first | ((with_reducible refine gate_dst (N := 105) rfl ?_); refine Kd.R_lit (Kd.int .u8) _ 5 ?hg (N := 105) ?hd (xs := ([32, 32] : List Int)) (inner := [.int .u8 32, .int .u8 32]) (ok := fun _ => True) (okp := fun _ => True) ?hr ?hp (fun _ hk => hk) trivial (Below.refl _ _) (Nat.le_refl _) (by simp) ?_; (case hd => rfl); (case hg => rfl); (case hr => first | (go_simp; done) | (go_simp; rfl)); (case hp => exact (Reps.one (show Kd.M (Kd.int .u8) _ _ _ 32 [.int .u8 32] from rfl) (Reps.one (show Kd.M (Kd.int .u8) _ _ _ 32 [.int .u8 32] from rfl) (Reps.none _ _)))); intro v322 w49 ho50 hb hg_ hnew_; clear hg_ hnew_; (first | rw [← Ny321.out] at ho50 | (simp only [Int.reduceToNat] at ho50; rw [← Ny321.out] at ho50)); have n0_ := Aside0.mk (Kd.R_elder' (by (with_reducible repeat (first | apply Kd.R_alloc | apply Kd.R_drewN | apply Kd.R_drew)); exact HO_1.out) (Kd.R_base ho50) hb); have n1_ := Aside0.mk (Kd.R_lower (Kd.R_new' (Kd.R_newM (M := fun k_ => (P1_ k_ ∨ w.heap.size ≤ k_)) ho50 (by first | exact HK.out.1 | exact (show Kept w _ (fun k_ => P1_ k_) from by repeat (first | (with_reducible first | exact HK.out | apply Kept.alloc | apply Kept.drewN | apply Kept.drew) | exact HK.out)).1) (fun k_ h_ => .inr h_)) (Kd.R_lt (by (with_reducible repeat (first | apply Kd.R_alloc | apply Kd.R_drewN | apply Kd.R_drew)); exact HO_1.out))) (below_size (by repeat (first | (with_reducible first | exact HB.out | apply below_alloc | apply pw_below_drewN | apply below_drew1) | exact HB.out)))); have n2_ := Aside0.mk (Kept.below (S := (fun k_ => P1_ k_)) (by repeat (first | (with_reducible first | exact HK.out | apply Kept.alloc | apply Kept.drewN | apply Kept.drew) | exact HK.out)) hb); have n3_ := Aside0.mk (below_step (by repeat (first | (with_reducible first | exact HB.out | apply below_alloc | apply pw_below_drewN | apply below_drew1) | exact HB.out)) hb); clear HO_1; clear HK; clear HB; have HO_1 := n0_; have HO323 := n1_; have HK := n2_; have HB := n3_; clear n0_ n1_ n2_ n3_; clear hb ho50; obtain ⟨Ao52, co52, eo52⟩ := Kd.R_slice HO323.out; subst eo52) | ((with_reducible refine gate_builtin (b := .append) (xs := #[.tmp 104, .tmp 105]) rfl ?_); at_builtin; refine Kd.R_append_rows (Kd.int .u8) (w0 := w0) w0.heap.size rfl (.tmp 104) (.tmp 105) 26 5 (.int .u8 0) 1 rfl Try.underlying26 info5 rfl (by decide) (by omega) u1 x1_2 y321 _ _ _ (fun k_ => (P1_ k_ ∨ w.heap.size ≤ k_) ∧ some k_ ≠ (.slice Ao52 y321.length co52 : Value).ownBlock) (fun _ => False) rfl rfl ?aO ?aR (fun _ _ h => h) (fun _ h => h.elim) ?aF ?aB ?aS ?aL ?_; (case aR => repeat (first | exact (Kd.R_reads' HO323.out).2.2 | (with_reducible refine Kd.C_alloc ?_ _) | (with_reducible refine Kd.C_drewN ?_ _) | (with_reducible refine Kd.C_drew ?_))); (case aB => exact (by repeat (first | (with_reducible first | exact HB.out | apply below_alloc | apply pw_below_drewN | apply below_drew1) | exact HB.out))); (case aF => exact (fun k_ hk => ⟨(.inr (Nat.le_trans (by first | exact HK.out.1 | exact (show Kept w _ (fun k_ => P1_ k_) from by repeat (first | (with_reducible first | exact HK.out | apply Kept.alloc | apply Kept.drewN | apply Kept.drew) | exact HK.out)).1) hk)), Kd.fresh' (Kd.R_lt (by (with_reducible repeat (first | apply Kd.R_alloc | apply Kd.R_drewN | apply Kd.R_drew)); exact HO323.out)) k_ hk⟩)); (case aO => exact (by (with_reducible repeat (first | apply Kd.R_alloc | apply Kd.R_drewN | apply Kd.R_drew)); exact HO_1.out)); (case aS => exact (below_size (by repeat (first | (with_reducible first | exact HB.out | apply below_alloc | apply pw_below_drewN | apply below_drew1) | exact HB.out)))); (case aL => have := LMc48.out; omega); intro v325 w51 ho hb hg hat; rw [← Ny324.out] at ho; have n0_ := Aside0.mk (Kd.R_after (ok := (fun k_ => (P1_ k_ ∨ w.heap.size ≤ k_))) (by (with_reducible repeat (first | apply Kd.R_alloc | apply Kd.R_drewN | apply Kd.R_drew)); exact Kd.R_mono HO323.out (fun _ hk => ⟨hk.1.1, hk.2⟩)) hg hat); have n1_ := Aside0.mk (hb); have n2_ := Aside0.mk (Kept.of_grown (S := (fun k_ => P1_ k_)) hg (by repeat (first | (with_reducible first | exact HK.out | apply Kept.alloc | apply Kept.drewN | apply Kept.drew) | exact HK.out)) (fun k_ e_ => (HO_1.out.1 k_ e_).1)); have n3_ := Aside0.mk (ho); clear HO323; clear HB; clear HK; clear HO_1; have HO323 := n0_; have HB := n1_; have HK := n2_; have HO326 := n3_; clear n0_ n1_ n2_ n3_; clear ho hb hg hat))
                     go_roundg kj39
                     case measure => have := HK1.out; have := HK2.out; have := HJ39.out; omega
                     case rel => exact ⟨(y324), (wrap64 ((wrap64 (x5_2 + 1)) + 1)), (by first | rfl | (simp; done) | (simp [*]; done) | (simp; rw [Bool.eq_iff_iff]; simp; done)), H', ⟨by have := HK1.out; have := HK2.out; have := HJ39.out; omega⟩, ⟨by (with_reducible repeat (first | apply Kd.R_alloc | apply Kd.R_drewN | apply Kd.R_drew)); exact Kd.R_mono HO326.out (fun _ hk => hk.1)⟩, ⟨by repeat (first | (with_reducible first | exact HK.out | apply Kept.alloc | apply Kept.drewN | apply Kept.drew) | exact HK.out)⟩, ⟨by repeat (first | (with_reducible first | exact HB.out | apply below_alloc | apply pw_below_drewN | apply below_drew1) | exact HB.out)⟩⟩
                    ·
                     rw [if_neg c48] at H
                     exact absurd H (by simp)
                   ·
                    replace c47 := Bool.eq_false_iff.mpr c47
                    subst c47
                    have H1 : (if 0 ≤ x5_2 then (if x5_2 < (l0.length : Int) then (if (rd l0 x5_2) = 10 then (if x1_2.length < 140737488355328 then (pretty_spec.l2 kj39 l0 (x1_2 ++ [rd l0 x5_2]) (wrap64 (x5_2 + 1))) else (none)) else (if (rd l0 x5_2) = 9 then (if x1_2.length < 140737488355328 then (pretty_spec.l2 kj39 l0 (x1_2 ++ [rd l0 x5_2]) (wrap64 (x5_2 + 1))) else (none)) else (if (rd l0 x5_2) = 13 then (if x1_2.length < 140737488355328 then (pretty_spec.l2 kj39 l0 (x1_2 ++ [rd l0 x5_2]) (wrap64 (x5_2 + 1))) else (none)) else (if x1_2.length < 140737488355328 then (pretty_spec.l2 kj39 l0 (x1_2 ++ [32]) (wrap64 (x5_2 + 1))) else (none))))) else (none)) else (none)) = some r := by rw [if_neg (show ¬ (false = true) by decide)] at H; exact H
                    clear H
                    have H := H1
                    clear H1
                    by_cases c53 : 0 ≤ x5_2
                    ·
                     rw [if_pos c53] at H
                     have c53b0 : decide (0 ≤ x5_2) = true := decide_eq_true c53
                     clear c53
                     by_cases c54 : x5_2 < (l0.length : Int)
                     ·
                      rw [if_pos c54] at H
                      have c54b0 : decide (x5_2 < (l0.length : Int)) = true := decide_eq_true c54
                      clear c54
                      by_cases c55 : (rd l0 x5_2) = 10
                      ·
                       rw [if_pos c55] at H
                       have c55b0 : ((rd l0 x5_2) == 10) = true := beq_iff_eq.mpr c55
                       have c55b1 : ((rd l0 x5_2) != 10) = false := bne_eq_false_iff_eq.mpr c55
                       clear c55
                       by_cases c56 : x1_2.length < 140737488355328
                       ·
                        rw [if_pos c56] at H
                        have LMc56 := Aside0.mk c56
                        clear c56
                        obtain ⟨y329, hy329⟩ : ∃ y_ : List Int, y_ = (x1_2 ++ [rd l0 x5_2]) := ⟨_, rfl⟩
                        replace H : (pretty_spec.l2 kj39 l0 y329 (wrap64 (x5_2 + 1))) = some r := by first | (rw [hy329]; with_reducible exact H) | (have H2_ := (Option.bind_some _ _).symm.trans H; rw [hy329]; with_reducible exact H2_) | (have H2_ := (Option.bind_some _ _).symm.trans H; with_reducible exact H2_) | with_reducible exact H | (rw [hy329]; exact H) | exact H
                        have Ny329 := Aside0.mk hy329
                        clear hy329
                        have H' := Aside0.mk H
                        clear H
                        have p327 : 0 ≤ (x5_2 : Int) := of_decide_eq_true (by first | (with_reducible assumption) | assumption)
                        have q327 : x5_2 < (l0.length : Int) := of_decide_eq_true (by first | (with_reducible assumption) | assumption)
                        obtain ⟨ad327, e327, hx327_0⟩ := Kd.at_int (Kd.C_kept_now HR0.out HK.out) x5_2 p327 q327
                        obtain rfl : ad287 = ad327 := (by injection e327)
                        replace p327 := eq_true p327
                        replace q327 := eq_true q327
                        have p328 : 0 ≤ (x5_2 : Int) := of_decide_eq_true (by first | (with_reducible assumption) | assumption)
                        have q328 : x5_2 < (l0.length : Int) := of_decide_eq_true (by first | (with_reducible assumption) | assumption)
                        obtain ⟨ad328, e328, hx328_0⟩ := Kd.at_int (Kd.C_kept_now HR0.out HK.out) x5_2 p328 q328
                        obtain rfl : ad287 = ad328 := (by injection e328)
                        replace p328 := eq_true p328
                        replace q328 := eq_true q328
                        go_wp2_with (first | ((with_reducible refine gate_builtin (b := .append) (xs := #[.tmp 128, .tmp 133]) rfl ?_); at_builtin; refine Kd.R_append (Kd.int .u8) (w0 := w0) w0.heap.size rfl (.tmp 128) (.tmp 133) 26 5 (.int .u8 0) 1 rfl Try.underlying26 info5 rfl (by decide) (by omega) u1 x1_2 (rd l0 x5_2) [.int .u8 (rd l0 x5_2)] (fun k_ => (P1_ k_ ∨ w.heap.size ≤ k_)) (fun _ => False) rfl rfl ?aP (fun _ hk => hk.elim) ?aF ?aO ?aB ?aS ?aL ?_; (case aP => exact rfl); (case aB => exact (by repeat (first | (with_reducible first | exact HB.out | apply below_alloc | apply pw_below_drewN | apply below_drew1) | exact HB.out))); (case aF => exact (fun k_ hk => (.inr (Nat.le_trans (by first | exact HK.out.1 | exact (show Kept w _ (fun k_ => P1_ k_) from by repeat (first | (with_reducible first | exact HK.out | apply Kept.alloc | apply Kept.drewN | apply Kept.drew) | exact HK.out)).1) hk)))); (case aO => exact (by (with_reducible repeat (first | apply Kd.R_alloc | apply Kd.R_drewN | apply Kd.R_drew)); exact HO_1.out)); (case aS => exact (below_size (by repeat (first | (with_reducible first | exact HB.out | apply below_alloc | apply pw_below_drewN | apply below_drew1) | exact HB.out)))); (case aL => have := LMc56.out; omega); intro v330 w57 ho hb hg hat; rw [← Ny329.out] at ho; have n0_ := Aside0.mk (hb); have n1_ := Aside0.mk (Kept.of_grown (S := (fun k_ => P1_ k_)) hg (by repeat (first | (with_reducible first | exact HK.out | apply Kept.alloc | apply Kept.drewN | apply Kept.drew) | exact HK.out)) (fun k_ e_ => (HO_1.out.1 k_ e_))); have n2_ := Aside0.mk (ho); clear HB; clear HK; clear HO_1; have HB := n0_; have HK := n1_; have HO331 := n2_; clear n0_ n1_ n2_; clear ho hb hg hat))
                        go_roundg kj39
                        case measure => have := HK1.out; have := HK2.out; have := HJ39.out; omega
                        case rel => exact ⟨(y329), (wrap64 (x5_2 + 1)), (by first | rfl | (simp; done) | (simp [*]; done) | (simp; rw [Bool.eq_iff_iff]; simp; done)), H', ⟨by have := HK1.out; have := HK2.out; have := HJ39.out; omega⟩, ⟨by (with_reducible repeat (first | apply Kd.R_alloc | apply Kd.R_drewN | apply Kd.R_drew)); exact HO331.out⟩, ⟨by repeat (first | (with_reducible first | exact HK.out | apply Kept.alloc | apply Kept.drewN | apply Kept.drew) | exact HK.out)⟩, ⟨by repeat (first | (with_reducible first | exact HB.out | apply below_alloc | apply pw_below_drewN | apply below_drew1) | exact HB.out)⟩⟩
                       ·
                        rw [if_neg c56] at H
                        exact absurd H (by simp)
                      ·
                       rw [if_neg c55] at H
                       have c55b0 : ((rd l0 x5_2) == 10) = false := beq_eq_false_iff_ne.mpr c55
                       have c55b1 : ((rd l0 x5_2) != 10) = true := bne_iff_ne.mpr c55
                       by_cases c58 : (rd l0 x5_2) = 9
                       ·
                        rw [if_pos c58] at H
                        have c58b0 : ((rd l0 x5_2) == 9) = true := beq_iff_eq.mpr c58
                        have c58b1 : ((rd l0 x5_2) != 9) = false := bne_eq_false_iff_eq.mpr c58
                        clear c58
                        by_cases c59 : x1_2.length < 140737488355328
                        ·
                         rw [if_pos c59] at H
                         have LMc59 := Aside0.mk c59
                         clear c59
                         obtain ⟨y334, hy334⟩ : ∃ y_ : List Int, y_ = (x1_2 ++ [rd l0 x5_2]) := ⟨_, rfl⟩
                         replace H : (pretty_spec.l2 kj39 l0 y334 (wrap64 (x5_2 + 1))) = some r := by first | (rw [hy334]; with_reducible exact H) | (have H2_ := (Option.bind_some _ _).symm.trans H; rw [hy334]; with_reducible exact H2_) | (have H2_ := (Option.bind_some _ _).symm.trans H; with_reducible exact H2_) | with_reducible exact H | (rw [hy334]; exact H) | exact H
                         have Ny334 := Aside0.mk hy334
                         clear hy334
                         have H' := Aside0.mk H
                         clear H
                         have p327 : 0 ≤ (x5_2 : Int) := of_decide_eq_true (by first | (with_reducible assumption) | assumption)
                         have q327 : x5_2 < (l0.length : Int) := of_decide_eq_true (by first | (with_reducible assumption) | assumption)
                         obtain ⟨ad327, e327, hx327_0⟩ := Kd.at_int (Kd.C_kept_now HR0.out HK.out) x5_2 p327 q327
                         obtain rfl : ad287 = ad327 := (by injection e327)
                         replace p327 := eq_true p327
                         replace q327 := eq_true q327
                         have p332 : 0 ≤ (x5_2 : Int) := of_decide_eq_true (by first | (with_reducible assumption) | assumption)
                         have q332 : x5_2 < (l0.length : Int) := of_decide_eq_true (by first | (with_reducible assumption) | assumption)
                         obtain ⟨ad332, e332, hx332_0⟩ := Kd.at_int (Kd.C_kept_now HR0.out HK.out) x5_2 p332 q332
                         obtain rfl : ad287 = ad332 := (by injection e332)
                         replace p332 := eq_true p332
                         replace q332 := eq_true q332
                         have p333 : 0 ≤ (x5_2 : Int) := of_decide_eq_true (by first | (with_reducible assumption) | assumption)
                         have q333 : x5_2 < (l0.length : Int) := of_decide_eq_true (by first | (with_reducible assumption) | assumption)
                         obtain ⟨ad333, e333, hx333_0⟩ := Kd.at_int (Kd.C_kept_now HR0.out HK.out) x5_2 p333 q333
                         obtain rfl : ad287 = ad333 := (by injection e333)
                         replace p333 := eq_true p333
                         replace q333 := eq_true q333
                         go_wp2_with (first | ((with_reducible refine gate_builtin (b := .append) (xs := #[.tmp 128, .tmp 133]) rfl ?_); at_builtin; refine Kd.R_append (Kd.int .u8) (w0 := w0) w0.heap.size rfl (.tmp 128) (.tmp 133) 26 5 (.int .u8 0) 1 rfl Try.underlying26 info5 rfl (by decide) (by omega) u1 x1_2 (rd l0 x5_2) [.int .u8 (rd l0 x5_2)] (fun k_ => (P1_ k_ ∨ w.heap.size ≤ k_)) (fun _ => False) rfl rfl ?aP (fun _ hk => hk.elim) ?aF ?aO ?aB ?aS ?aL ?_; (case aP => exact rfl); (case aB => exact (by repeat (first | (with_reducible first | exact HB.out | apply below_alloc | apply pw_below_drewN | apply below_drew1) | exact HB.out))); (case aF => exact (fun k_ hk => (.inr (Nat.le_trans (by first | exact HK.out.1 | exact (show Kept w _ (fun k_ => P1_ k_) from by repeat (first | (with_reducible first | exact HK.out | apply Kept.alloc | apply Kept.drewN | apply Kept.drew) | exact HK.out)).1) hk)))); (case aO => exact (by (with_reducible repeat (first | apply Kd.R_alloc | apply Kd.R_drewN | apply Kd.R_drew)); exact HO_1.out)); (case aS => exact (below_size (by repeat (first | (with_reducible first | exact HB.out | apply below_alloc | apply pw_below_drewN | apply below_drew1) | exact HB.out)))); (case aL => have := LMc59.out; omega); intro v335 w60 ho hb hg hat; rw [← Ny334.out] at ho; have n0_ := Aside0.mk (hb); have n1_ := Aside0.mk (Kept.of_grown (S := (fun k_ => P1_ k_)) hg (by repeat (first | (with_reducible first | exact HK.out | apply Kept.alloc | apply Kept.drewN | apply Kept.drew) | exact HK.out)) (fun k_ e_ => (HO_1.out.1 k_ e_))); have n2_ := Aside0.mk (ho); clear HB; clear HK; clear HO_1; have HB := n0_; have HK := n1_; have HO336 := n2_; clear n0_ n1_ n2_; clear ho hb hg hat))
                         go_roundg kj39
                         case measure => have := HK1.out; have := HK2.out; have := HJ39.out; omega
                         case rel => exact ⟨(y334), (wrap64 (x5_2 + 1)), (by first | rfl | (simp; done) | (simp [*]; done) | (simp; rw [Bool.eq_iff_iff]; simp; done)), H', ⟨by have := HK1.out; have := HK2.out; have := HJ39.out; omega⟩, ⟨by (with_reducible repeat (first | apply Kd.R_alloc | apply Kd.R_drewN | apply Kd.R_drew)); exact HO336.out⟩, ⟨by repeat (first | (with_reducible first | exact HK.out | apply Kept.alloc | apply Kept.drewN | apply Kept.drew) | exact HK.out)⟩, ⟨by repeat (first | (with_reducible first | exact HB.out | apply below_alloc | apply pw_below_drewN | apply below_drew1) | exact HB.out)⟩⟩
                        ·
                         rw [if_neg c59] at H
                         exact absurd H (by simp)
                       ·
                        rw [if_neg c58] at H
                        have c58b0 : ((rd l0 x5_2) == 9) = false := beq_eq_false_iff_ne.mpr c58
                        have c58b1 : ((rd l0 x5_2) != 9) = true := bne_iff_ne.mpr c58
                        by_cases c61 : (rd l0 x5_2) = 13
                        ·
                         rw [if_pos c61] at H
                         have c61b0 : ((rd l0 x5_2) == 13) = true := beq_iff_eq.mpr c61
                         have c61b1 : ((rd l0 x5_2) != 13) = false := bne_eq_false_iff_eq.mpr c61
                         clear c61
                         by_cases c62 : x1_2.length < 140737488355328
                         ·
                          rw [if_pos c62] at H
                          have LMc62 := Aside0.mk c62
                          clear c62
                          obtain ⟨y339, hy339⟩ : ∃ y_ : List Int, y_ = (x1_2 ++ [rd l0 x5_2]) := ⟨_, rfl⟩
                          replace H : (pretty_spec.l2 kj39 l0 y339 (wrap64 (x5_2 + 1))) = some r := by first | (rw [hy339]; with_reducible exact H) | (have H2_ := (Option.bind_some _ _).symm.trans H; rw [hy339]; with_reducible exact H2_) | (have H2_ := (Option.bind_some _ _).symm.trans H; with_reducible exact H2_) | with_reducible exact H | (rw [hy339]; exact H) | exact H
                          have Ny339 := Aside0.mk hy339
                          clear hy339
                          have H' := Aside0.mk H
                          clear H
                          have p327 : 0 ≤ (x5_2 : Int) := of_decide_eq_true (by first | (with_reducible assumption) | assumption)
                          have q327 : x5_2 < (l0.length : Int) := of_decide_eq_true (by first | (with_reducible assumption) | assumption)
                          obtain ⟨ad327, e327, hx327_0⟩ := Kd.at_int (Kd.C_kept_now HR0.out HK.out) x5_2 p327 q327
                          obtain rfl : ad287 = ad327 := (by injection e327)
                          replace p327 := eq_true p327
                          replace q327 := eq_true q327
                          have p332 : 0 ≤ (x5_2 : Int) := of_decide_eq_true (by first | (with_reducible assumption) | assumption)
                          have q332 : x5_2 < (l0.length : Int) := of_decide_eq_true (by first | (with_reducible assumption) | assumption)
                          obtain ⟨ad332, e332, hx332_0⟩ := Kd.at_int (Kd.C_kept_now HR0.out HK.out) x5_2 p332 q332
                          obtain rfl : ad287 = ad332 := (by injection e332)
                          replace p332 := eq_true p332
                          replace q332 := eq_true q332
                          have p337 : 0 ≤ (x5_2 : Int) := of_decide_eq_true (by first | (with_reducible assumption) | assumption)
                          have q337 : x5_2 < (l0.length : Int) := of_decide_eq_true (by first | (with_reducible assumption) | assumption)
                          obtain ⟨ad337, e337, hx337_0⟩ := Kd.at_int (Kd.C_kept_now HR0.out HK.out) x5_2 p337 q337
                          obtain rfl : ad287 = ad337 := (by injection e337)
                          replace p337 := eq_true p337
                          replace q337 := eq_true q337
                          have p338 : 0 ≤ (x5_2 : Int) := of_decide_eq_true (by first | (with_reducible assumption) | assumption)
                          have q338 : x5_2 < (l0.length : Int) := of_decide_eq_true (by first | (with_reducible assumption) | assumption)
                          obtain ⟨ad338, e338, hx338_0⟩ := Kd.at_int (Kd.C_kept_now HR0.out HK.out) x5_2 p338 q338
                          obtain rfl : ad287 = ad338 := (by injection e338)
                          replace p338 := eq_true p338
                          replace q338 := eq_true q338
                          go_wp2_with (first | ((with_reducible refine gate_builtin (b := .append) (xs := #[.tmp 128, .tmp 133]) rfl ?_); at_builtin; refine Kd.R_append (Kd.int .u8) (w0 := w0) w0.heap.size rfl (.tmp 128) (.tmp 133) 26 5 (.int .u8 0) 1 rfl Try.underlying26 info5 rfl (by decide) (by omega) u1 x1_2 (rd l0 x5_2) [.int .u8 (rd l0 x5_2)] (fun k_ => (P1_ k_ ∨ w.heap.size ≤ k_)) (fun _ => False) rfl rfl ?aP (fun _ hk => hk.elim) ?aF ?aO ?aB ?aS ?aL ?_; (case aP => exact rfl); (case aB => exact (by repeat (first | (with_reducible first | exact HB.out | apply below_alloc | apply pw_below_drewN | apply below_drew1) | exact HB.out))); (case aF => exact (fun k_ hk => (.inr (Nat.le_trans (by first | exact HK.out.1 | exact (show Kept w _ (fun k_ => P1_ k_) from by repeat (first | (with_reducible first | exact HK.out | apply Kept.alloc | apply Kept.drewN | apply Kept.drew) | exact HK.out)).1) hk)))); (case aO => exact (by (with_reducible repeat (first | apply Kd.R_alloc | apply Kd.R_drewN | apply Kd.R_drew)); exact HO_1.out)); (case aS => exact (below_size (by repeat (first | (with_reducible first | exact HB.out | apply below_alloc | apply pw_below_drewN | apply below_drew1) | exact HB.out)))); (case aL => have := LMc62.out; omega); intro v340 w63 ho hb hg hat; rw [← Ny339.out] at ho; have n0_ := Aside0.mk (hb); have n1_ := Aside0.mk (Kept.of_grown (S := (fun k_ => P1_ k_)) hg (by repeat (first | (with_reducible first | exact HK.out | apply Kept.alloc | apply Kept.drewN | apply Kept.drew) | exact HK.out)) (fun k_ e_ => (HO_1.out.1 k_ e_))); have n2_ := Aside0.mk (ho); clear HB; clear HK; clear HO_1; have HB := n0_; have HK := n1_; have HO341 := n2_; clear n0_ n1_ n2_; clear ho hb hg hat))
                          go_roundg kj39
                          case measure => have := HK1.out; have := HK2.out; have := HJ39.out; omega
                          case rel => exact ⟨(y339), (wrap64 (x5_2 + 1)), (by first | rfl | (simp; done) | (simp [*]; done) | (simp; rw [Bool.eq_iff_iff]; simp; done)), H', ⟨by have := HK1.out; have := HK2.out; have := HJ39.out; omega⟩, ⟨by (with_reducible repeat (first | apply Kd.R_alloc | apply Kd.R_drewN | apply Kd.R_drew)); exact HO341.out⟩, ⟨by repeat (first | (with_reducible first | exact HK.out | apply Kept.alloc | apply Kept.drewN | apply Kept.drew) | exact HK.out)⟩, ⟨by repeat (first | (with_reducible first | exact HB.out | apply below_alloc | apply pw_below_drewN | apply below_drew1) | exact HB.out)⟩⟩
                         ·
                          rw [if_neg c62] at H
                          exact absurd H (by simp)
                        ·
                         rw [if_neg c61] at H
                         have c61b0 : ((rd l0 x5_2) == 13) = false := beq_eq_false_iff_ne.mpr c61
                         have c61b1 : ((rd l0 x5_2) != 13) = true := bne_iff_ne.mpr c61
                         by_cases c64 : x1_2.length < 140737488355328
                         ·
                          rw [if_pos c64] at H
                          have LMc64 := Aside0.mk c64
                          clear c64
                          obtain ⟨y342, hy342⟩ : ∃ y_ : List Int, y_ = (x1_2 ++ [32]) := ⟨_, rfl⟩
                          replace H : (pretty_spec.l2 kj39 l0 y342 (wrap64 (x5_2 + 1))) = some r := by first | (rw [hy342]; with_reducible exact H) | (have H2_ := (Option.bind_some _ _).symm.trans H; rw [hy342]; with_reducible exact H2_) | (have H2_ := (Option.bind_some _ _).symm.trans H; with_reducible exact H2_) | with_reducible exact H | (rw [hy342]; exact H) | exact H
                          have Ny342 := Aside0.mk hy342
                          clear hy342
                          have H' := Aside0.mk H
                          clear H
                          have p327 : 0 ≤ (x5_2 : Int) := of_decide_eq_true (by first | (with_reducible assumption) | assumption)
                          have q327 : x5_2 < (l0.length : Int) := of_decide_eq_true (by first | (with_reducible assumption) | assumption)
                          obtain ⟨ad327, e327, hx327_0⟩ := Kd.at_int (Kd.C_kept_now HR0.out HK.out) x5_2 p327 q327
                          obtain rfl : ad287 = ad327 := (by injection e327)
                          replace p327 := eq_true p327
                          replace q327 := eq_true q327
                          have p332 : 0 ≤ (x5_2 : Int) := of_decide_eq_true (by first | (with_reducible assumption) | assumption)
                          have q332 : x5_2 < (l0.length : Int) := of_decide_eq_true (by first | (with_reducible assumption) | assumption)
                          obtain ⟨ad332, e332, hx332_0⟩ := Kd.at_int (Kd.C_kept_now HR0.out HK.out) x5_2 p332 q332
                          obtain rfl : ad287 = ad332 := (by injection e332)
                          replace p332 := eq_true p332
                          replace q332 := eq_true q332
                          have p337 : 0 ≤ (x5_2 : Int) := of_decide_eq_true (by first | (with_reducible assumption) | assumption)
                          have q337 : x5_2 < (l0.length : Int) := of_decide_eq_true (by first | (with_reducible assumption) | assumption)
                          obtain ⟨ad337, e337, hx337_0⟩ := Kd.at_int (Kd.C_kept_now HR0.out HK.out) x5_2 p337 q337
                          obtain rfl : ad287 = ad337 := (by injection e337)
                          replace p337 := eq_true p337
                          replace q337 := eq_true q337
                          go_wp2_with (first | ((with_reducible refine gate_builtin (b := .append) (xs := #[.tmp 135, .tmp 136]) rfl ?_); at_builtin; refine Kd.R_append (Kd.int .u8) (w0 := w0) w0.heap.size rfl (.tmp 135) (.tmp 136) 26 5 (.int .u8 0) 1 rfl Try.underlying26 info5 rfl (by decide) (by omega) u1 x1_2 32 [.int .u8 32] (fun k_ => (P1_ k_ ∨ w.heap.size ≤ k_)) (fun _ => False) rfl rfl ?aP (fun _ hk => hk.elim) ?aF ?aO ?aB ?aS ?aL ?_; (case aP => exact rfl); (case aB => exact (by repeat (first | (with_reducible first | exact HB.out | apply below_alloc | apply pw_below_drewN | apply below_drew1) | exact HB.out))); (case aF => exact (fun k_ hk => (.inr (Nat.le_trans (by first | exact HK.out.1 | exact (show Kept w _ (fun k_ => P1_ k_) from by repeat (first | (with_reducible first | exact HK.out | apply Kept.alloc | apply Kept.drewN | apply Kept.drew) | exact HK.out)).1) hk)))); (case aO => exact (by (with_reducible repeat (first | apply Kd.R_alloc | apply Kd.R_drewN | apply Kd.R_drew)); exact HO_1.out)); (case aS => exact (below_size (by repeat (first | (with_reducible first | exact HB.out | apply below_alloc | apply pw_below_drewN | apply below_drew1) | exact HB.out)))); (case aL => have := LMc64.out; omega); intro v343 w65 ho hb hg hat; rw [← Ny342.out] at ho; have n0_ := Aside0.mk (hb); have n1_ := Aside0.mk (Kept.of_grown (S := (fun k_ => P1_ k_)) hg (by repeat (first | (with_reducible first | exact HK.out | apply Kept.alloc | apply Kept.drewN | apply Kept.drew) | exact HK.out)) (fun k_ e_ => (HO_1.out.1 k_ e_))); have n2_ := Aside0.mk (ho); clear HB; clear HK; clear HO_1; have HB := n0_; have HK := n1_; have HO344 := n2_; clear n0_ n1_ n2_; clear ho hb hg hat))
                          go_roundg kj39
                          case measure => have := HK1.out; have := HK2.out; have := HJ39.out; omega
                          case rel => exact ⟨(y342), (wrap64 (x5_2 + 1)), (by first | rfl | (simp; done) | (simp [*]; done) | (simp; rw [Bool.eq_iff_iff]; simp; done)), H', ⟨by have := HK1.out; have := HK2.out; have := HJ39.out; omega⟩, ⟨by (with_reducible repeat (first | apply Kd.R_alloc | apply Kd.R_drewN | apply Kd.R_drew)); exact HO344.out⟩, ⟨by repeat (first | (with_reducible first | exact HK.out | apply Kept.alloc | apply Kept.drewN | apply Kept.drew) | exact HK.out)⟩, ⟨by repeat (first | (with_reducible first | exact HB.out | apply below_alloc | apply pw_below_drewN | apply below_drew1) | exact HB.out)⟩⟩
                         ·
                          rw [if_neg c64] at H
                          exact absurd H (by simp)
                     ·
                      rw [if_neg c54] at H
                      exact absurd H (by simp)
                    ·
                     rw [if_neg c53] at H
                     exact absurd H (by simp)
                ·
                 rw [if_neg c39] at H
                 have c39b0 : decide (x5_2 < (wrap64 ((l0.length : Int) - 1))) = false := decide_eq_false c39
                 clear c39
                 have H' := Aside0.mk H
                 clear H
                 go_wp2
                 go_roundg k2
                 case measure => have := HK1.out; have := HK2.out; omega
                 case rel => exact ⟨(x1_2), (wrap64 (x5_2 + 1)), (by first | rfl | (simp; done) | (simp [*]; done) | (simp; rw [Bool.eq_iff_iff]; simp; done)), H', ⟨by have := HK1.out; have := HK2.out; omega⟩, ⟨by (with_reducible repeat (first | apply Kd.R_alloc | apply Kd.R_drewN | apply Kd.R_drew)); exact HO_1.out⟩, ⟨by repeat (first | (with_reducible first | exact HK.out | apply Kept.alloc | apply Kept.drewN | apply Kept.drew) | exact HK.out)⟩, ⟨by repeat (first | (with_reducible first | exact HB.out | apply below_alloc | apply pw_below_drewN | apply below_drew1) | exact HB.out)⟩⟩
             ·
              rw [if_neg c34] at H
              exact absurd H (by simp)
            ·
             rw [if_neg c33] at H
             have c33b0 : ((rd l0 (ji11)) == 42) = false := beq_eq_false_iff_ne.mpr c33
             have c33b1 : ((rd l0 (ji11)) != 42) = true := bne_iff_ne.mpr c33
             have H' := Aside0.mk H
             clear H
             have p288 : 0 ≤ ((ji11) : Int) := of_decide_eq_true (by first | (with_reducible assumption) | assumption)
             have q288 : (ji11) < (l0.length : Int) := of_decide_eq_true (by first | (with_reducible assumption) | assumption)
             obtain ⟨ad288, e288, hx288_0⟩ := Kd.at_int (Kd.C_kept_now HR0.out HK.out) (ji11) p288 q288
             obtain rfl : ad287 = ad288 := (by injection e288)
             replace p288 := eq_true p288
             replace q288 := eq_true q288
             have p312 : 0 ≤ ((ji11) : Int) := of_decide_eq_true (by first | (with_reducible assumption) | assumption)
             have q312 : (ji11) < (l0.length : Int) := of_decide_eq_true (by first | (with_reducible assumption) | assumption)
             obtain ⟨ad312, e312, hx312_0⟩ := Kd.at_int (Kd.C_kept_now HR0.out HK.out) (ji11) p312 q312
             obtain rfl : ad287 = ad312 := (by injection e312)
             replace p312 := eq_true p312
             replace q312 := eq_true q312
             go_wp2
             go_meet
             case rel => exact ⟨_, (x1_1), (x5_1), (by first | rfl | (simp; done) | (simp [*]; done) | (simp; rw [Bool.eq_iff_iff]; simp; done)), H', ⟨by have := HK1.out; first | omega | exact Nat.le_refl _⟩, ⟨by (with_reducible repeat (first | apply Kd.R_alloc | apply Kd.R_drewN | apply Kd.R_drew)); exact HO_1.out⟩, ⟨by repeat (first | (with_reducible first | exact HK.out | apply Kept.alloc | apply Kept.drewN | apply Kept.drew) | exact HK.out)⟩, ⟨by repeat (first | (with_reducible first | exact HB.out | apply below_alloc | apply pw_below_drewN | apply below_drew1) | exact HB.out)⟩⟩
          ·
           rw [if_neg c13] at H
           exact absurd H (by simp)
         ·
          rw [if_neg c12] at H
          exact absurd H (by simp)
        ·
         rw [if_neg c10] at H
         have c10b0 : decide (x5_1 < (wrap64 ((l0.length : Int) - 1))) = false := decide_eq_false c10
         clear c10
         have H' := Aside0.mk H
         clear H
         go_wp2
         go_meet
         case rel => exact ⟨_, (x1_1), (x5_1), (by first | rfl | (simp; done) | (simp [*]; done) | (simp; rw [Bool.eq_iff_iff]; simp; done)), H', ⟨by have := HK1.out; first | omega | exact Nat.le_refl _⟩, ⟨by (with_reducible repeat (first | apply Kd.R_alloc | apply Kd.R_drewN | apply Kd.R_drew)); exact HO_1.out⟩, ⟨by repeat (first | (with_reducible first | exact HK.out | apply Kept.alloc | apply Kept.drewN | apply Kept.drew) | exact HK.out)⟩, ⟨by repeat (first | (with_reducible first | exact HB.out | apply below_alloc | apply pw_below_drewN | apply below_drew1) | exact HB.out)⟩⟩
       ·
        rw [if_neg c9] at H
        have c9b0 : ((rd l0 x5_1) == 47) = false := beq_eq_false_iff_ne.mpr c9
        have c9b1 : ((rd l0 x5_1) != 47) = true := bne_iff_ne.mpr c9
        (first | rw [c9b0] | (simp only [i64_w, i32_w]; rw [c9b0]) | skip)
        have H' := Aside0.mk H
        clear H
        go_wp2
        go_meet
        case rel => exact ⟨_, (x1_1), (x5_1), (by first | rfl | (simp; done) | (simp [*]; done) | (simp; rw [Bool.eq_iff_iff]; simp; done)), H', ⟨by have := HK1.out; first | omega | exact Nat.le_refl _⟩, ⟨by (with_reducible repeat (first | apply Kd.R_alloc | apply Kd.R_drewN | apply Kd.R_drew)); exact HO_1.out⟩, ⟨by repeat (first | (with_reducible first | exact HK.out | apply Kept.alloc | apply Kept.drewN | apply Kept.drew) | exact HK.out)⟩, ⟨by repeat (first | (with_reducible first | exact HB.out | apply below_alloc | apply pw_below_drewN | apply below_drew1) | exact HB.out)⟩⟩
      case rest =>
       as_aux_lemma =>
       clear HC8
       (try clear c1); (try clear c2); (try clear p2); (try clear q2); (try clear hx2); (try clear c3); (try clear c3b0); (try clear c3b1); (try clear p3); (try clear q3); (try clear hx3); (try clear c4); (try clear c5); (try clear q5); (try clear c6); (try clear c6b0); (try clear p6); (try clear c7); (try clear c7b0); (try clear c9); (try clear c9b0); (try clear c9b1); (try clear c10); (try clear c10b0); (try clear c12); (try clear c12b0); (try clear c13); (try clear c13b0); (try clear c14); (try clear c14b0); (try clear c14b1); (try clear c15); (try clear c16); (try clear c20); (try clear c20b0); (try clear c21); (try clear c21b0); (try clear c22); (try clear c22b0); (try clear c22b1); (try clear c23); (try clear c25); (try clear c25b0); (try clear c25b1); (try clear c26); (try clear c28); (try clear c28b0); (try clear c28b1); (try clear p28); (try clear q28); (try clear hx28); (try clear c29); (try clear p29); (try clear q29); (try clear hx29); (try clear p30); (try clear q30); (try clear hx30); (try clear c31); (try clear p31); (try clear q31); (try clear hx31); (try clear p32); (try clear q32); (try clear hx32); (try clear c33); (try clear c33b0); (try clear c33b1); (try clear p33); (try clear q33); (try clear hx33); (try clear c34); (try clear c39); (try clear c39b0); (try clear c41); (try clear c41b0); (try clear c42); (try clear c42b0); (try clear c43); (try clear c43b0); (try clear c43b1); (try clear c45); (try clear c45b0); (try clear c46); (try clear c46b0); (try clear c47); (try clear c48); (try clear c53); (try clear c53b0); (try clear c54); (try clear c54b0); (try clear c55); (try clear c55b0); (try clear c55b1); (try clear c56); (try clear c58); (try clear c58b0); (try clear c58b1); (try clear c59); (try clear c61); (try clear c61b0); (try clear c61b1); (try clear c62); (try clear c64); (try clear p64); (try clear hx287_0); (try clear hx288_0); (try clear hx295_0); (try clear hx299_0); (try clear hx300_0); (try clear hx304_0); (try clear hx305_0); (try clear hx312_0); (try clear hx319_0); (try clear hx320_0); (try clear hx327_0); (try clear hx328_0); (try clear hx332_0); (try clear hx333_0); (try clear hx337_0); (try clear hx338_0); (try clear p2); (try clear p28); (try clear p287); (try clear p288); (try clear p29); (try clear p295); (try clear p299); (try clear p3); (try clear p30); (try clear p300); (try clear p304); (try clear p305); (try clear p31); (try clear p312); (try clear p319); (try clear p32); (try clear p320); (try clear p327); (try clear p328); (try clear p332); (try clear p333); (try clear p337); (try clear p338); (try clear p6); (try clear q2); (try clear q28); (try clear q287); (try clear q288); (try clear q29); (try clear q295); (try clear q299); (try clear q3); (try clear q30); (try clear q300); (try clear q304); (try clear q305); (try clear q31); (try clear q312); (try clear q319); (try clear q32); (try clear q320); (try clear q327); (try clear q328); (try clear q332); (try clear q333); (try clear q337); (try clear q338); (try clear q5)
       obtain ⟨kq, x1_7, x5_7, rfl, HA, HJ7, HO_1, HK, HB⟩ := hcut
       cases kq with
       | zero => exact absurd HA.out (by simp [pretty_spec.j4])
       | succ kj7 =>
        have H := HA.out
        clear HA
        simp only [pretty_spec.j4] at H
        by_cases c66 : 0 ≤ x5_7
        ·
         rw [if_pos c66] at H
         have c66b0 : decide (0 ≤ x5_7) = true := decide_eq_true c66
         clear c66
         by_cases c67 : x5_7 < (l0.length : Int)
         ·
          rw [if_pos c67] at H
          have c67b0 : decide (x5_7 < (l0.length : Int)) = true := decide_eq_true c67
          clear c67
          by_cases c68 : x1_7.length < 140737488355328
          ·
           rw [if_pos c68] at H
           have LMc68 := Aside0.mk c68
           clear c68
           obtain ⟨y346, hy346⟩ : ∃ y_ : List Int, y_ = (x1_7 ++ [rd l0 x5_7]) := ⟨_, rfl⟩
           replace H : (if (rd l0 x5_7) = 34 then (pretty_spec.l3 kj7 l0 y346 (wrap64 (x5_7 + 1))) else (if (rd l0 x5_7) = 125 then (pretty_spec.j7 kj7 l0 y346 x5_7 true) else (pretty_spec.j7 kj7 l0 y346 x5_7 ((rd l0 x5_7) == 93)))) = some r := by first | (rw [hy346]; with_reducible exact H) | (have H2_ := (Option.bind_some _ _).symm.trans H; rw [hy346]; with_reducible exact H2_) | (have H2_ := (Option.bind_some _ _).symm.trans H; with_reducible exact H2_) | with_reducible exact H | (rw [hy346]; exact H) | exact H
           have Ny346 := Aside0.mk hy346
           clear hy346
           by_cases c69 : (rd l0 x5_7) = 34
           ·
            rw [if_pos c69] at H
            have c69b0 : ((rd l0 x5_7) == 34) = true := beq_iff_eq.mpr c69
            have c69b1 : ((rd l0 x5_7) != 34) = false := bne_eq_false_iff_eq.mpr c69
            clear c69
            have H' := Aside0.mk H
            clear H
            have p345 : 0 ≤ (x5_7 : Int) := of_decide_eq_true (by first | (with_reducible assumption) | assumption)
            have q345 : x5_7 < (l0.length : Int) := of_decide_eq_true (by first | (with_reducible assumption) | assumption)
            obtain ⟨ad345, e345, hx345_0⟩ := Kd.at_int (Kd.C_kept_now HR0.out HK.out) x5_7 p345 q345
            obtain rfl : ad287 = ad345 := (by injection e345)
            replace p345 := eq_true p345
            replace q345 := eq_true q345
            go_wp2_with (first | ((with_reducible refine gate_builtin (b := .append) (xs := #[.tmp 138, .tmp 143]) rfl ?_); at_builtin; refine Kd.R_append (Kd.int .u8) (w0 := w0) w0.heap.size rfl (.tmp 138) (.tmp 143) 26 5 (.int .u8 0) 1 rfl Try.underlying26 info5 rfl (by decide) (by omega) u1 x1_7 (rd l0 x5_7) [.int .u8 (rd l0 x5_7)] (fun k_ => (P1_ k_ ∨ w.heap.size ≤ k_)) (fun _ => False) rfl rfl ?aP (fun _ hk => hk.elim) ?aF ?aO ?aB ?aS ?aL ?_; (case aP => exact rfl); (case aB => exact (by repeat (first | (with_reducible first | exact HB.out | apply below_alloc | apply pw_below_drewN | apply below_drew1) | exact HB.out))); (case aF => exact (fun k_ hk => (.inr (Nat.le_trans (by first | exact HK.out.1 | exact (show Kept w _ (fun k_ => P1_ k_) from by repeat (first | (with_reducible first | exact HK.out | apply Kept.alloc | apply Kept.drewN | apply Kept.drew) | exact HK.out)).1) hk)))); (case aO => exact (by (with_reducible repeat (first | apply Kd.R_alloc | apply Kd.R_drewN | apply Kd.R_drew)); exact HO_1.out)); (case aS => exact (below_size (by repeat (first | (with_reducible first | exact HB.out | apply below_alloc | apply pw_below_drewN | apply below_drew1) | exact HB.out)))); (case aL => have := LMc68.out; omega); intro v347 w70 ho hb hg hat; rw [← Ny346.out] at ho; have n0_ := Aside0.mk (hb); have n1_ := Aside0.mk (Kept.of_grown (S := (fun k_ => P1_ k_)) hg (by repeat (first | (with_reducible first | exact HK.out | apply Kept.alloc | apply Kept.drewN | apply Kept.drew) | exact HK.out)) (fun k_ e_ => (HO_1.out.1 k_ e_))); have n2_ := Aside0.mk (ho); clear HB; clear HK; clear HO_1; have HB := n0_; have HK := n1_; have HO348 := n2_; clear n0_ n1_ n2_; clear ho hb hg hat; have p349 : 0 ≤ (x5_7 : Int) := of_decide_eq_true (by first | (with_reducible assumption) | assumption); have q349 : x5_7 < (l0.length : Int) := of_decide_eq_true (by first | (with_reducible assumption) | assumption); obtain ⟨ad349, e349, hx349_0⟩ := Kd.at_int (Kd.C_kept_now HR0.out HK.out) x5_7 p349 q349; obtain rfl : ad287 = ad349 := (by injection e349); replace p349 := eq_true p349; replace q349 := eq_true q349))
            try simp only [Act.put, List.setIfInBounds_toArray, List.set_cons_succ, List.set_cons_zero]
            go_loopg [1, 5] kj7 (fun kq v1 v5 w' => ∃ (x1_3 : List Int) (x5_3 : Int), v5 = .int .i64 x5_3 ∧ Aside0 (pretty_spec.l3 kq l0 x1_3 x5_3 = some r) ∧ Aside0 (kq ≤ kj7) ∧ Aside0 (Kd.R (Kd.int .u8) 5 w' w0.heap.size (fun k_ => (P1_ k_ ∨ w.heap.size ≤ k_)) v1 x1_3) ∧ Aside0 (Kept w w' (fun k_ => P1_ k_)) ∧ Aside0 (Below w0.heap.size w0 w'))
            case atStart => exact ⟨(y346), (wrap64 (x5_7 + 1)), (by first | rfl | (simp; done) | (simp [*]; done) | (simp; rw [Bool.eq_iff_iff]; simp; done)), H', ⟨Nat.le_refl _⟩, ⟨by (with_reducible repeat (first | apply Kd.R_alloc | apply Kd.R_drewN | apply Kd.R_drew)); exact HO348.out⟩, ⟨by repeat (first | (with_reducible first | exact HK.out | apply Kept.alloc | apply Kept.drewN | apply Kept.drew) | exact HK.out)⟩, ⟨by repeat (first | (with_reducible first | exact HB.out | apply below_alloc | apply pw_below_drewN | apply below_drew1) | exact HB.out)⟩⟩
            case round =>
             as_aux_lemma =>
             clear H'
             (try clear c1); (try clear c2); (try clear p2); (try clear q2); (try clear hx2); (try clear c3); (try clear c3b0); (try clear c3b1); (try clear p3); (try clear q3); (try clear hx3); (try clear c4); (try clear c5); (try clear q5); (try clear c6); (try clear c6b0); (try clear p6); (try clear c7); (try clear c7b0); (try clear c9); (try clear c9b0); (try clear c9b1); (try clear c10); (try clear c10b0); (try clear c12); (try clear c12b0); (try clear c13); (try clear c13b0); (try clear c14); (try clear c14b0); (try clear c14b1); (try clear c15); (try clear c16); (try clear c20); (try clear c20b0); (try clear c21); (try clear c21b0); (try clear c22); (try clear c22b0); (try clear c22b1); (try clear c23); (try clear c25); (try clear c25b0); (try clear c25b1); (try clear c26); (try clear c28); (try clear c28b0); (try clear c28b1); (try clear p28); (try clear q28); (try clear hx28); (try clear c29); (try clear p29); (try clear q29); (try clear hx29); (try clear p30); (try clear q30); (try clear hx30); (try clear c31); (try clear p31); (try clear q31); (try clear hx31); (try clear p32); (try clear q32); (try clear hx32); (try clear c33); (try clear c33b0); (try clear c33b1); (try clear p33); (try clear q33); (try clear hx33); (try clear c34); (try clear p34); (try clear q34); (try clear hx34); (try clear c39); (try clear c39b0); (try clear c41); (try clear c41b0); (try clear c42); (try clear c42b0); (try clear c43); (try clear c43b0); (try clear c43b1); (try clear c45); (try clear c45b0); (try clear c46); (try clear c46b0); (try clear c47); (try clear c48); (try clear c53); (try clear c53b0); (try clear c54); (try clear c54b0); (try clear c55); (try clear c55b0); (try clear c55b1); (try clear c56); (try clear c58); (try clear c58b0); (try clear c58b1); (try clear c59); (try clear c61); (try clear c61b0); (try clear c61b1); (try clear c62); (try clear c64); (try clear p64); (try clear c66); (try clear c66b0); (try clear c67); (try clear c67b0); (try clear c68); (try clear c69); (try clear c69b0); (try clear c69b1); (try clear hx287_0); (try clear hx288_0); (try clear hx295_0); (try clear hx299_0); (try clear hx300_0); (try clear hx304_0); (try clear hx305_0); (try clear hx312_0); (try clear hx319_0); (try clear hx320_0); (try clear hx327_0); (try clear hx328_0); (try clear hx332_0); (try clear hx333_0); (try clear hx337_0); (try clear hx338_0); (try clear hx345_0); (try clear hx349_0); (try clear p2); (try clear p28); (try clear p287); (try clear p288); (try clear p29); (try clear p295); (try clear p299); (try clear p3); (try clear p30); (try clear p300); (try clear p304); (try clear p305); (try clear p31); (try clear p312); (try clear p319); (try clear p32); (try clear p320); (try clear p327); (try clear p328); (try clear p33); (try clear p332); (try clear p333); (try clear p337); (try clear p338); (try clear p345); (try clear p349); (try clear p6); (try clear p64); (try clear q2); (try clear q28); (try clear q287); (try clear q288); (try clear q29); (try clear q295); (try clear q299); (try clear q3); (try clear q30); (try clear q300); (try clear q304); (try clear q305); (try clear q31); (try clear q312); (try clear q319); (try clear q32); (try clear q320); (try clear q327); (try clear q328); (try clear q33); (try clear q332); (try clear q333); (try clear q337); (try clear q338); (try clear q345); (try clear q349); (try clear q5)
             obtain ⟨x1_3, x5_3, rfl, HA, HK3, HO_1, HK, HB⟩ := hrel
             cases gk with
             | zero => exact absurd HA.out (by simp [pretty_spec.l3])
             | succ k3 =>
              have H := HA.out
              clear HA
              simp only [pretty_spec.l3] at H
              by_cases c71 : x5_3 < (l0.length : Int)
              ·
               rw [if_pos c71] at H
               have c71b0 : decide (x5_3 < (l0.length : Int)) = true := decide_eq_true c71
               clear c71
               by_cases c72 : 0 ≤ x5_3
               ·
                rw [if_pos c72] at H
                have c72b0 : decide (0 ≤ x5_3) = true := decide_eq_true c72
                clear c72
                by_cases c73 : x1_3.length < 140737488355328
                ·
                 rw [if_pos c73] at H
                 have LMc73 := Aside0.mk c73
                 clear c73
                 obtain ⟨y351, hy351⟩ : ∃ y_ : List Int, y_ = (x1_3 ++ [rd l0 x5_3]) := ⟨_, rfl⟩
                 replace H : (if (rd l0 x5_3) = 34 then (pretty_spec.l4 k3 l0 y351 x5_3 (wrap64 (x5_3 - 1))) else (pretty_spec.l3 k3 l0 y351 (wrap64 (x5_3 + 1)))) = some r := by first | (rw [hy351]; with_reducible exact H) | (have H2_ := (Option.bind_some _ _).symm.trans H; rw [hy351]; with_reducible exact H2_) | (have H2_ := (Option.bind_some _ _).symm.trans H; with_reducible exact H2_) | with_reducible exact H | (rw [hy351]; exact H) | exact H
                 have Ny351 := Aside0.mk hy351
                 clear hy351
                 by_cases c74 : (rd l0 x5_3) = 34
                 ·
                  rw [if_pos c74] at H
                  have c74b0 : ((rd l0 x5_3) == 34) = true := beq_iff_eq.mpr c74
                  have c74b1 : ((rd l0 x5_3) != 34) = false := bne_eq_false_iff_eq.mpr c74
                  clear c74
                  have H' := Aside0.mk H
                  clear H
                  have p350 : 0 ≤ (x5_3 : Int) := of_decide_eq_true (by first | (with_reducible assumption) | assumption)
                  have q350 : x5_3 < (l0.length : Int) := of_decide_eq_true (by first | (with_reducible assumption) | assumption)
                  obtain ⟨ad350, e350, hx350_0⟩ := Kd.at_int (Kd.C_kept_now HR0.out HK.out) x5_3 p350 q350
                  obtain rfl : ad287 = ad350 := (by injection e350)
                  replace p350 := eq_true p350
                  replace q350 := eq_true q350
                  go_wp2_with (first | ((with_reducible refine gate_builtin (b := .append) (xs := #[.tmp 158, .tmp 163]) rfl ?_); at_builtin; refine Kd.R_append (Kd.int .u8) (w0 := w0) w0.heap.size rfl (.tmp 158) (.tmp 163) 26 5 (.int .u8 0) 1 rfl Try.underlying26 info5 rfl (by decide) (by omega) u1 x1_3 (rd l0 x5_3) [.int .u8 (rd l0 x5_3)] (fun k_ => (P1_ k_ ∨ w.heap.size ≤ k_)) (fun _ => False) rfl rfl ?aP (fun _ hk => hk.elim) ?aF ?aO ?aB ?aS ?aL ?_; (case aP => exact rfl); (case aB => exact (by repeat (first | (with_reducible first | exact HB.out | apply below_alloc | apply pw_below_drewN | apply below_drew1) | exact HB.out))); (case aF => exact (fun k_ hk => (.inr (Nat.le_trans (by first | exact HK.out.1 | exact (show Kept w _ (fun k_ => P1_ k_) from by repeat (first | (with_reducible first | exact HK.out | apply Kept.alloc | apply Kept.drewN | apply Kept.drew) | exact HK.out)).1) hk)))); (case aO => exact (by (with_reducible repeat (first | apply Kd.R_alloc | apply Kd.R_drewN | apply Kd.R_drew)); exact HO_1.out)); (case aS => exact (below_size (by repeat (first | (with_reducible first | exact HB.out | apply below_alloc | apply pw_below_drewN | apply below_drew1) | exact HB.out)))); (case aL => have := LMc73.out; omega); intro v352 w75 ho hb hg hat; rw [← Ny351.out] at ho; have n0_ := Aside0.mk (hb); have n1_ := Aside0.mk (Kept.of_grown (S := (fun k_ => P1_ k_)) hg (by repeat (first | (with_reducible first | exact HK.out | apply Kept.alloc | apply Kept.drewN | apply Kept.drew) | exact HK.out)) (fun k_ e_ => (HO_1.out.1 k_ e_))); have n2_ := Aside0.mk (ho); clear HB; clear HK; clear HO_1; have HB := n0_; have HK := n1_; have HO353 := n2_; clear n0_ n1_ n2_; clear ho hb hg hat; have p354 : 0 ≤ (x5_3 : Int) := of_decide_eq_true (by first | (with_reducible assumption) | assumption); have q354 : x5_3 < (l0.length : Int) := of_decide_eq_true (by first | (with_reducible assumption) | assumption); obtain ⟨ad354, e354, hx354_0⟩ := Kd.at_int (Kd.C_kept_now HR0.out HK.out) x5_3 p354 q354; obtain rfl : ad287 = ad354 := (by injection e354); replace p354 := eq_true p354; replace q354 := eq_true q354))
                  try simp only [Act.put, List.setIfInBounds_toArray, List.set_cons_succ, List.set_cons_zero]
                  go_loopg [6] k3 (fun kq v6 w' => ∃ (x6_4 : Int), v6 = .int .i64 x6_4 ∧ Aside0 (pretty_spec.l4 kq l0 y351 x5_3 x6_4 = some r) ∧ Aside0 (kq ≤ k3) ∧ Aside0 (Kd.R (Kd.int .u8) 5 w' w0.heap.size (fun k_ => (P1_ k_ ∨ w.heap.size ≤ k_)) v352 y351) ∧ Aside0 (Kept w w' (fun k_ => P1_ k_)) ∧ Aside0 (Below w0.heap.size w0 w'))
                  case atStart => exact ⟨(wrap64 (x5_3 - 1)), (by first | rfl | (simp; done) | (simp [*]; done) | (simp; rw [Bool.eq_iff_iff]; simp; done)), H', ⟨Nat.le_refl _⟩, ⟨by (with_reducible repeat (first | apply Kd.R_alloc | apply Kd.R_drewN | apply Kd.R_drew)); exact HO353.out⟩, ⟨by repeat (first | (with_reducible first | exact HK.out | apply Kept.alloc | apply Kept.drewN | apply Kept.drew) | exact HK.out)⟩, ⟨by repeat (first | (with_reducible first | exact HB.out | apply below_alloc | apply pw_below_drewN | apply below_drew1) | exact HB.out)⟩⟩
                  case round =>
                   as_aux_lemma =>
                   clear H'
                   (try clear c1); (try clear c2); (try clear p2); (try clear q2); (try clear hx2); (try clear c3); (try clear c3b0); (try clear c3b1); (try clear p3); (try clear q3); (try clear hx3); (try clear c4); (try clear c5); (try clear q5); (try clear c6); (try clear c6b0); (try clear p6); (try clear c7); (try clear c7b0); (try clear c9); (try clear c9b0); (try clear c9b1); (try clear c10); (try clear c10b0); (try clear c12); (try clear c12b0); (try clear c13); (try clear c13b0); (try clear c14); (try clear c14b0); (try clear c14b1); (try clear c15); (try clear c16); (try clear c20); (try clear c20b0); (try clear c21); (try clear c21b0); (try clear c22); (try clear c22b0); (try clear c22b1); (try clear c23); (try clear c25); (try clear c25b0); (try clear c25b1); (try clear c26); (try clear c28); (try clear c28b0); (try clear c28b1); (try clear p28); (try clear q28); (try clear hx28); (try clear c29); (try clear p29); (try clear q29); (try clear hx29); (try clear p30); (try clear q30); (try clear hx30); (try clear c31); (try clear p31); (try clear q31); (try clear hx31); (try clear p32); (try clear q32); (try clear hx32); (try clear c33); (try clear c33b0); (try clear c33b1); (try clear p33); (try clear q33); (try clear hx33); (try clear c34); (try clear p34); (try clear q34); (try clear hx34); (try clear p35); (try clear q35); (try clear hx35); (try clear c39); (try clear c39b0); (try clear c41); (try clear c41b0); (try clear c42); (try clear c42b0); (try clear c43); (try clear c43b0); (try clear c43b1); (try clear c45); (try clear c45b0); (try clear c46); (try clear c46b0); (try clear c47); (try clear c48); (try clear c53); (try clear c53b0); (try clear c54); (try clear c54b0); (try clear c55); (try clear c55b0); (try clear c55b1); (try clear c56); (try clear c58); (try clear c58b0); (try clear c58b1); (try clear c59); (try clear c61); (try clear c61b0); (try clear c61b1); (try clear c62); (try clear c64); (try clear p64); (try clear c66); (try clear c66b0); (try clear c67); (try clear c67b0); (try clear c68); (try clear c69); (try clear c69b0); (try clear c69b1); (try clear c71); (try clear c71b0); (try clear c72); (try clear c72b0); (try clear c73); (try clear c74); (try clear c74b0); (try clear c74b1); (try clear hx287_0); (try clear hx288_0); (try clear hx295_0); (try clear hx299_0); (try clear hx300_0); (try clear hx304_0); (try clear hx305_0); (try clear hx312_0); (try clear hx319_0); (try clear hx320_0); (try clear hx327_0); (try clear hx328_0); (try clear hx332_0); (try clear hx333_0); (try clear hx337_0); (try clear hx338_0); (try clear hx345_0); (try clear hx349_0); (try clear hx350_0); (try clear hx354_0); (try clear p2); (try clear p28); (try clear p287); (try clear p288); (try clear p29); (try clear p295); (try clear p299); (try clear p3); (try clear p30); (try clear p300); (try clear p304); (try clear p305); (try clear p31); (try clear p312); (try clear p319); (try clear p32); (try clear p320); (try clear p327); (try clear p328); (try clear p33); (try clear p332); (try clear p333); (try clear p337); (try clear p338); (try clear p34); (try clear p345); (try clear p349); (try clear p350); (try clear p354); (try clear p6); (try clear p64); (try clear q2); (try clear q28); (try clear q287); (try clear q288); (try clear q29); (try clear q295); (try clear q299); (try clear q3); (try clear q30); (try clear q300); (try clear q304); (try clear q305); (try clear q31); (try clear q312); (try clear q319); (try clear q32); (try clear q320); (try clear q327); (try clear q328); (try clear q33); (try clear q332); (try clear q333); (try clear q337); (try clear q338); (try clear q34); (try clear q345); (try clear q349); (try clear q350); (try clear q354); (try clear q5)
                   obtain ⟨x6_4, rfl, HA, HK4, HO_1, HK, HB⟩ := hrel
                   cases gk with
                   | zero => exact absurd HA.out (by simp [pretty_spec.l4])
                   | succ k4 =>
                    have H := HA.out
                    clear HA
                    simp only [pretty_spec.l4] at H
                    by_cases c76 : 0 ≤ x6_4
                    ·
                     rw [if_pos c76] at H
                     have c76b0 : decide (0 ≤ x6_4) = true := decide_eq_true c76
                     clear c76
                     by_cases c77 : x6_4 < (l0.length : Int)
                     ·
                      rw [if_pos c77] at H
                      have c77b0 : decide (x6_4 < (l0.length : Int)) = true := decide_eq_true c77
                      clear c77
                      by_cases c78 : (rd l0 x6_4) = 92
                      ·
                       rw [if_pos c78] at H
                       have c78b0 : ((rd l0 x6_4) == 92) = true := beq_iff_eq.mpr c78
                       have c78b1 : ((rd l0 x6_4) != 92) = false := bne_eq_false_iff_eq.mpr c78
                       clear c78
                       have H' := Aside0.mk H
                       clear H
                       have p355 : 0 ≤ (x6_4 : Int) := of_decide_eq_true (by first | (with_reducible assumption) | assumption)
                       have q355 : x6_4 < (l0.length : Int) := of_decide_eq_true (by first | (with_reducible assumption) | assumption)
                       obtain ⟨ad355, e355, hx355_0⟩ := Kd.at_int (Kd.C_kept_now HR0.out HK.out) x6_4 p355 q355
                       obtain rfl : ad287 = ad355 := (by injection e355)
                       replace p355 := eq_true p355
                       replace q355 := eq_true q355
                       go_wp2
                       go_roundg k4
                       case measure => have := HK1.out; have := HJ7.out; have := HK3.out; have := HK4.out; omega
                       case rel => exact ⟨(wrap64 (x6_4 - 1)), (by first | rfl | (simp; done) | (simp [*]; done) | (simp; rw [Bool.eq_iff_iff]; simp; done)), H', ⟨by have := HK1.out; have := HJ7.out; have := HK3.out; have := HK4.out; omega⟩, ⟨by (with_reducible repeat (first | apply Kd.R_alloc | apply Kd.R_drewN | apply Kd.R_drew)); exact HO_1.out⟩, ⟨by repeat (first | (with_reducible first | exact HK.out | apply Kept.alloc | apply Kept.drewN | apply Kept.drew) | exact HK.out)⟩, ⟨by repeat (first | (with_reducible first | exact HB.out | apply below_alloc | apply pw_below_drewN | apply below_drew1) | exact HB.out)⟩⟩
                      ·
                       rw [if_neg c78] at H
                       have c78b0 : ((rd l0 x6_4) == 92) = false := beq_eq_false_iff_ne.mpr c78
                       have c78b1 : ((rd l0 x6_4) != 92) = true := bne_iff_ne.mpr c78
                       by_cases c79 : (Int.tmod (wrap64 (x6_4 - x5_3)) 2) = 0
                       ·
                        rw [if_pos c79] at H
                        have c79b0 : ((Int.tmod (wrap64 (x6_4 - x5_3)) 2) == 0) = true := beq_iff_eq.mpr c79
                        have c79b1 : ((Int.tmod (wrap64 (x6_4 - x5_3)) 2) != 0) = false := bne_eq_false_iff_eq.mpr c79
                        clear c79
                        have H' := Aside0.mk H
                        clear H
                        have p355 : 0 ≤ (x6_4 : Int) := of_decide_eq_true (by first | (with_reducible assumption) | assumption)
                        have q355 : x6_4 < (l0.length : Int) := of_decide_eq_true (by first | (with_reducible assumption) | assumption)
                        obtain ⟨ad355, e355, hx355_0⟩ := Kd.at_int (Kd.C_kept_now HR0.out HK.out) x6_4 p355 q355
                        obtain rfl : ad287 = ad355 := (by injection e355)
                        replace p355 := eq_true p355
                        replace q355 := eq_true q355
                        go_wp2
                        go_roundg k4
                        case measure => have := HK1.out; have := HJ7.out; have := HK3.out; have := HK4.out; omega
                        case rel => exact ⟨(y351), (wrap64 (x5_3 + 1)), (by first | rfl | (simp; done) | (simp [*]; done) | (simp; rw [Bool.eq_iff_iff]; simp; done)), H', ⟨by have := HK1.out; have := HJ7.out; have := HK3.out; have := HK4.out; omega⟩, ⟨by (with_reducible repeat (first | apply Kd.R_alloc | apply Kd.R_drewN | apply Kd.R_drew)); exact HO_1.out⟩, ⟨by repeat (first | (with_reducible first | exact HK.out | apply Kept.alloc | apply Kept.drewN | apply Kept.drew) | exact HK.out)⟩, ⟨by repeat (first | (with_reducible first | exact HB.out | apply below_alloc | apply pw_below_drewN | apply below_drew1) | exact HB.out)⟩⟩
                       ·
                        rw [if_neg c79] at H
                        have c79b0 : ((Int.tmod (wrap64 (x6_4 - x5_3)) 2) == 0) = false := beq_eq_false_iff_ne.mpr c79
                        have c79b1 : ((Int.tmod (wrap64 (x6_4 - x5_3)) 2) != 0) = true := bne_iff_ne.mpr c79
                        have H' := Aside0.mk H
                        clear H
                        have p355 : 0 ≤ (x6_4 : Int) := of_decide_eq_true (by first | (with_reducible assumption) | assumption)
                        have q355 : x6_4 < (l0.length : Int) := of_decide_eq_true (by first | (with_reducible assumption) | assumption)
                        obtain ⟨ad355, e355, hx355_0⟩ := Kd.at_int (Kd.C_kept_now HR0.out HK.out) x6_4 p355 q355
                        obtain rfl : ad287 = ad355 := (by injection e355)
                        replace p355 := eq_true p355
                        replace q355 := eq_true q355
                        go_wp2
                        go_roundg k4
                        case measure => have := HK1.out; have := HJ7.out; have := HK3.out; have := HK4.out; omega
                        case rel => exact ⟨(y351), (wrap64 (x5_3 + 1)), (by first | rfl | (simp; done) | (simp [*]; done) | (simp; rw [Bool.eq_iff_iff]; simp; done)), H', ⟨by have := HK1.out; have := HJ7.out; have := HK3.out; have := HK4.out; omega⟩, ⟨by (with_reducible repeat (first | apply Kd.R_alloc | apply Kd.R_drewN | apply Kd.R_drew)); exact HO_1.out⟩, ⟨by repeat (first | (with_reducible first | exact HK.out | apply Kept.alloc | apply Kept.drewN | apply Kept.drew) | exact HK.out)⟩, ⟨by repeat (first | (with_reducible first | exact HB.out | apply below_alloc | apply pw_below_drewN | apply below_drew1) | exact HB.out)⟩⟩
                     ·
                      rw [if_neg c77] at H
                      exact absurd H (by simp)
                    ·
                     rw [if_neg c76] at H
                     exact absurd H (by simp)
                 ·
                  rw [if_neg c74] at H
                  have c74b0 : ((rd l0 x5_3) == 34) = false := beq_eq_false_iff_ne.mpr c74
                  have c74b1 : ((rd l0 x5_3) != 34) = true := bne_iff_ne.mpr c74
                  have H' := Aside0.mk H
                  clear H
                  have p350 : 0 ≤ (x5_3 : Int) := of_decide_eq_true (by first | (with_reducible assumption) | assumption)
                  have q350 : x5_3 < (l0.length : Int) := of_decide_eq_true (by first | (with_reducible assumption) | assumption)
                  obtain ⟨ad350, e350, hx350_0⟩ := Kd.at_int (Kd.C_kept_now HR0.out HK.out) x5_3 p350 q350
                  obtain rfl : ad287 = ad350 := (by injection e350)
                  replace p350 := eq_true p350
                  replace q350 := eq_true q350
                  go_wp2_with (first | ((with_reducible refine gate_builtin (b := .append) (xs := #[.tmp 158, .tmp 163]) rfl ?_); at_builtin; refine Kd.R_append (Kd.int .u8) (w0 := w0) w0.heap.size rfl (.tmp 158) (.tmp 163) 26 5 (.int .u8 0) 1 rfl Try.underlying26 info5 rfl (by decide) (by omega) u1 x1_3 (rd l0 x5_3) [.int .u8 (rd l0 x5_3)] (fun k_ => (P1_ k_ ∨ w.heap.size ≤ k_)) (fun _ => False) rfl rfl ?aP (fun _ hk => hk.elim) ?aF ?aO ?aB ?aS ?aL ?_; (case aP => exact rfl); (case aB => exact (by repeat (first | (with_reducible first | exact HB.out | apply below_alloc | apply pw_below_drewN | apply below_drew1) | exact HB.out))); (case aF => exact (fun k_ hk => (.inr (Nat.le_trans (by first | exact HK.out.1 | exact (show Kept w _ (fun k_ => P1_ k_) from by repeat (first | (with_reducible first | exact HK.out | apply Kept.alloc | apply Kept.drewN | apply Kept.drew) | exact HK.out)).1) hk)))); (case aO => exact (by (with_reducible repeat (first | apply Kd.R_alloc | apply Kd.R_drewN | apply Kd.R_drew)); exact HO_1.out)); (case aS => exact (below_size (by repeat (first | (with_reducible first | exact HB.out | apply below_alloc | apply pw_below_drewN | apply below_drew1) | exact HB.out)))); (case aL => have := LMc73.out; omega); intro v352 w80 ho hb hg hat; rw [← Ny351.out] at ho; have n0_ := Aside0.mk (hb); have n1_ := Aside0.mk (Kept.of_grown (S := (fun k_ => P1_ k_)) hg (by repeat (first | (with_reducible first | exact HK.out | apply Kept.alloc | apply Kept.drewN | apply Kept.drew) | exact HK.out)) (fun k_ e_ => (HO_1.out.1 k_ e_))); have n2_ := Aside0.mk (ho); clear HB; clear HK; clear HO_1; have HB := n0_; have HK := n1_; have HO353 := n2_; clear n0_ n1_ n2_; clear ho hb hg hat; have p354 : 0 ≤ (x5_3 : Int) := of_decide_eq_true (by first | (with_reducible assumption) | assumption); have q354 : x5_3 < (l0.length : Int) := of_decide_eq_true (by first | (with_reducible assumption) | assumption); obtain ⟨ad354, e354, hx354_0⟩ := Kd.at_int (Kd.C_kept_now HR0.out HK.out) x5_3 p354 q354; obtain rfl : ad287 = ad354 := (by injection e354); replace p354 := eq_true p354; replace q354 := eq_true q354))
                  go_roundg k3
                  case measure => have := HK1.out; have := HJ7.out; have := HK3.out; omega
                  case rel => exact ⟨(y351), (wrap64 (x5_3 + 1)), (by first | rfl | (simp; done) | (simp [*]; done) | (simp; rw [Bool.eq_iff_iff]; simp; done)), H', ⟨by have := HK1.out; have := HJ7.out; have := HK3.out; omega⟩, ⟨by (with_reducible repeat (first | apply Kd.R_alloc | apply Kd.R_drewN | apply Kd.R_drew)); exact HO353.out⟩, ⟨by repeat (first | (with_reducible first | exact HK.out | apply Kept.alloc | apply Kept.drewN | apply Kept.drew) | exact HK.out)⟩, ⟨by repeat (first | (with_reducible first | exact HB.out | apply below_alloc | apply pw_below_drewN | apply below_drew1) | exact HB.out)⟩⟩
                ·
                 rw [if_neg c73] at H
                 exact absurd H (by simp)
               ·
                rw [if_neg c72] at H
                exact absurd H (by simp)
              ·
               rw [if_neg c71] at H
               have c71b0 : decide (x5_3 < (l0.length : Int)) = false := decide_eq_false c71
               clear c71
               have H' := Aside0.mk H
               clear H
               go_wp2
               go_roundg k3
               case measure => have := HK1.out; have := HJ7.out; have := HK3.out; omega
               case rel => exact ⟨(x1_3), (wrap64 (x5_3 + 1)), (by first | rfl | (simp; done) | (simp [*]; done) | (simp; rw [Bool.eq_iff_iff]; simp; done)), H', ⟨by have := HK1.out; have := HJ7.out; have := HK3.out; omega⟩, ⟨by (with_reducible repeat (first | apply Kd.R_alloc | apply Kd.R_drewN | apply Kd.R_drew)); exact HO_1.out⟩, ⟨by repeat (first | (with_reducible first | exact HK.out | apply Kept.alloc | apply Kept.drewN | apply Kept.drew) | exact HK.out)⟩, ⟨by repeat (first | (with_reducible first | exact HB.out | apply below_alloc | apply pw_below_drewN | apply below_drew1) | exact HB.out)⟩⟩
           ·
            rw [if_neg c69] at H
            have c69b0 : ((rd l0 x5_7) == 34) = false := beq_eq_false_iff_ne.mpr c69
            have c69b1 : ((rd l0 x5_7) != 34) = true := bne_iff_ne.mpr c69
            have HC81 := Aside0.mk H
            clear H
            have p345 : 0 ≤ (x5_7 : Int) := of_decide_eq_true (by first | (with_reducible assumption) | assumption)
            have q345 : x5_7 < (l0.length : Int) := of_decide_eq_true (by first | (with_reducible assumption) | assumption)
            obtain ⟨ad345, e345, hx345_0⟩ := Kd.at_int (Kd.C_kept_now HR0.out HK.out) x5_7 p345 q345
            obtain rfl : ad287 = ad345 := (by injection e345)
            replace p345 := eq_true p345
            replace q345 := eq_true q345
            go_upto_region 39 with (first | ((with_reducible refine gate_builtin (b := .append) (xs := #[.tmp 138, .tmp 143]) rfl ?_); at_builtin; refine Kd.R_append (Kd.int .u8) (w0 := w0) w0.heap.size rfl (.tmp 138) (.tmp 143) 26 5 (.int .u8 0) 1 rfl Try.underlying26 info5 rfl (by decide) (by omega) u1 x1_7 (rd l0 x5_7) [.int .u8 (rd l0 x5_7)] (fun k_ => (P1_ k_ ∨ w.heap.size ≤ k_)) (fun _ => False) rfl rfl ?aP (fun _ hk => hk.elim) ?aF ?aO ?aB ?aS ?aL ?_; (case aP => exact rfl); (case aB => exact (by repeat (first | (with_reducible first | exact HB.out | apply below_alloc | apply pw_below_drewN | apply below_drew1) | exact HB.out))); (case aF => exact (fun k_ hk => (.inr (Nat.le_trans (by first | exact HK.out.1 | exact (show Kept w _ (fun k_ => P1_ k_) from by repeat (first | (with_reducible first | exact HK.out | apply Kept.alloc | apply Kept.drewN | apply Kept.drew) | exact HK.out)).1) hk)))); (case aO => exact (by (with_reducible repeat (first | apply Kd.R_alloc | apply Kd.R_drewN | apply Kd.R_drew)); exact HO_1.out)); (case aS => exact (below_size (by repeat (first | (with_reducible first | exact HB.out | apply below_alloc | apply pw_below_drewN | apply below_drew1) | exact HB.out)))); (case aL => have := LMc68.out; omega); intro v347 w82 ho hb hg hat; rw [← Ny346.out] at ho; have n0_ := Aside0.mk (hb); have n1_ := Aside0.mk (Kept.of_grown (S := (fun k_ => P1_ k_)) hg (by repeat (first | (with_reducible first | exact HK.out | apply Kept.alloc | apply Kept.drewN | apply Kept.drew) | exact HK.out)) (fun k_ e_ => (HO_1.out.1 k_ e_))); have n2_ := Aside0.mk (ho); clear HB; clear HK; clear HO_1; have HB := n0_; have HK := n1_; have HO348 := n2_; clear n0_ n1_ n2_; clear ho hb hg hat; have p349 : 0 ≤ (x5_7 : Int) := of_decide_eq_true (by first | (with_reducible assumption) | assumption); have q349 : x5_7 < (l0.length : Int) := of_decide_eq_true (by first | (with_reducible assumption) | assumption); obtain ⟨ad349, e349, hx349_0⟩ := Kd.at_int (Kd.C_kept_now HR0.out HK.out) x5_7 p349 q349; obtain rfl : ad287 = ad349 := (by injection e349); replace p349 := eq_true p349; replace q349 := eq_true q349))
            (try simp only [Act.put, List.setIfInBounds_toArray, List.set_cons_zero, List.set_cons_succ])
            go_cut [195] (fun v195 wc => ∃ (kq : Nat) (x195_80 : Bool), v195 = .bool x195_80 ∧ Aside0 (pretty_spec.j7 kq l0 y346 x5_7 x195_80 = some r) ∧ Aside0 (kq ≤ kj7) ∧ Aside0 (Kd.R (Kd.int .u8) 5 wc w0.heap.size (fun k_ => (P1_ k_ ∨ w.heap.size ≤ k_)) v347 y346) ∧ Aside0 (Kept w wc (fun k_ => P1_ k_)) ∧ Aside0 (Below w0.heap.size w0 wc))
            case first =>
             as_aux_lemma =>
             have H := HC81.out
             clear HC81
             by_cases c83 : (rd l0 x5_7) = 125
             ·
              rw [if_pos c83] at H
              have c83b0 : ((rd l0 x5_7) == 125) = true := beq_iff_eq.mpr c83
              have c83b1 : ((rd l0 x5_7) != 125) = false := bne_eq_false_iff_eq.mpr c83
              clear c83
              (first | rw [c83b0] | (simp only [i64_w, i32_w]; rw [c83b0]) | skip)
              have H' := Aside0.mk H
              clear H
              have p356 : 0 ≤ (x5_7 : Int) := of_decide_eq_true (by first | (with_reducible assumption) | assumption)
              have q356 : x5_7 < (l0.length : Int) := of_decide_eq_true (by first | (with_reducible assumption) | assumption)
              obtain ⟨ad356, e356, hx356_0⟩ := Kd.at_int (Kd.C_kept_now HR0.out HK.out) x5_7 p356 q356
              obtain rfl : ad287 = ad356 := (by injection e356)
              replace p356 := eq_true p356
              replace q356 := eq_true q356
              go_wp2
              go_meet
              case rel => exact ⟨_, (true), (by first | rfl | (simp; done) | (simp [*]; done) | (simp; rw [Bool.eq_iff_iff]; simp; done)), H', ⟨by have := HK1.out; have := HJ7.out; first | omega | exact Nat.le_refl _⟩, ⟨by (with_reducible repeat (first | apply Kd.R_alloc | apply Kd.R_drewN | apply Kd.R_drew)); exact HO348.out⟩, ⟨by repeat (first | (with_reducible first | exact HK.out | apply Kept.alloc | apply Kept.drewN | apply Kept.drew) | exact HK.out)⟩, ⟨by repeat (first | (with_reducible first | exact HB.out | apply below_alloc | apply pw_below_drewN | apply below_drew1) | exact HB.out)⟩⟩
             ·
              rw [if_neg c83] at H
              have c83b0 : ((rd l0 x5_7) == 125) = false := beq_eq_false_iff_ne.mpr c83
              have c83b1 : ((rd l0 x5_7) != 125) = true := bne_iff_ne.mpr c83
              (first | rw [c83b0] | (simp only [i64_w, i32_w]; rw [c83b0]) | skip)
              have H' := Aside0.mk H
              clear H
              have p356 : 0 ≤ (x5_7 : Int) := of_decide_eq_true (by first | (with_reducible assumption) | assumption)
              have q356 : x5_7 < (l0.length : Int) := of_decide_eq_true (by first | (with_reducible assumption) | assumption)
              obtain ⟨ad356, e356, hx356_0⟩ := Kd.at_int (Kd.C_kept_now HR0.out HK.out) x5_7 p356 q356
              obtain rfl : ad287 = ad356 := (by injection e356)
              replace p356 := eq_true p356
              replace q356 := eq_true q356
              have p357 : 0 ≤ (x5_7 : Int) := of_decide_eq_true (by first | (with_reducible assumption) | assumption)
              have q357 : x5_7 < (l0.length : Int) := of_decide_eq_true (by first | (with_reducible assumption) | assumption)
              obtain ⟨ad357, e357, hx357_0⟩ := Kd.at_int (Kd.C_kept_now HR0.out HK.out) x5_7 p357 q357
              obtain rfl : ad287 = ad357 := (by injection e357)
              replace p357 := eq_true p357
              replace q357 := eq_true q357
              go_wp2
              go_meet
              case rel => exact ⟨_, (((rd l0 x5_7) == 93)), (by first | rfl | (simp; done) | (simp [*]; done) | (simp; rw [Bool.eq_iff_iff]; simp; done)), H', ⟨by have := HK1.out; have := HJ7.out; first | omega | exact Nat.le_refl _⟩, ⟨by (with_reducible repeat (first | apply Kd.R_alloc | apply Kd.R_drewN | apply Kd.R_drew)); exact HO348.out⟩, ⟨by repeat (first | (with_reducible first | exact HK.out | apply Kept.alloc | apply Kept.drewN | apply Kept.drew) | exact HK.out)⟩, ⟨by repeat (first | (with_reducible first | exact HB.out | apply below_alloc | apply pw_below_drewN | apply below_drew1) | exact HB.out)⟩⟩
            case rest =>
             as_aux_lemma =>
             clear HC81
             (try clear c1); (try clear c2); (try clear p2); (try clear q2); (try clear hx2); (try clear c3); (try clear c3b0); (try clear c3b1); (try clear p3); (try clear q3); (try clear hx3); (try clear c4); (try clear c5); (try clear q5); (try clear c6); (try clear c6b0); (try clear p6); (try clear c7); (try clear c7b0); (try clear c8); (try clear c9); (try clear c9b0); (try clear c9b1); (try clear c10); (try clear c10b0); (try clear c12); (try clear c12b0); (try clear c13); (try clear c13b0); (try clear c14); (try clear c14b0); (try clear c14b1); (try clear c15); (try clear c16); (try clear c20); (try clear c20b0); (try clear c21); (try clear c21b0); (try clear c22); (try clear c22b0); (try clear c22b1); (try clear c23); (try clear c25); (try clear c25b0); (try clear c25b1); (try clear c26); (try clear c28); (try clear c28b0); (try clear c28b1); (try clear p28); (try clear q28); (try clear hx28); (try clear c29); (try clear p29); (try clear q29); (try clear hx29); (try clear p30); (try clear q30); (try clear hx30); (try clear c31); (try clear p31); (try clear q31); (try clear hx31); (try clear p32); (try clear q32); (try clear hx32); (try clear c33); (try clear c33b0); (try clear c33b1); (try clear p33); (try clear q33); (try clear hx33); (try clear c34); (try clear p34); (try clear q34); (try clear hx34); (try clear p35); (try clear q35); (try clear hx35); (try clear c39); (try clear c39b0); (try clear c41); (try clear c41b0); (try clear c42); (try clear c42b0); (try clear c43); (try clear c43b0); (try clear c43b1); (try clear c45); (try clear c45b0); (try clear c46); (try clear c46b0); (try clear c47); (try clear c48); (try clear c53); (try clear c53b0); (try clear c54); (try clear c54b0); (try clear c55); (try clear c55b0); (try clear c55b1); (try clear c56); (try clear c58); (try clear c58b0); (try clear c58b1); (try clear c59); (try clear c61); (try clear c61b0); (try clear c61b1); (try clear c62); (try clear c64); (try clear p64); (try clear c66); (try clear c66b0); (try clear c67); (try clear c67b0); (try clear c68); (try clear c69); (try clear c69b0); (try clear c69b1); (try clear c71); (try clear c71b0); (try clear c72); (try clear c72b0); (try clear c73); (try clear c74); (try clear c74b0); (try clear c74b1); (try clear c76); (try clear c76b0); (try clear c77); (try clear c77b0); (try clear c78); (try clear c78b0); (try clear c78b1); (try clear c79); (try clear c79b0); (try clear c79b1); (try clear c83); (try clear c83b0); (try clear c83b1); (try clear hx287_0); (try clear hx288_0); (try clear hx295_0); (try clear hx299_0); (try clear hx300_0); (try clear hx304_0); (try clear hx305_0); (try clear hx312_0); (try clear hx319_0); (try clear hx320_0); (try clear hx327_0); (try clear hx328_0); (try clear hx332_0); (try clear hx333_0); (try clear hx337_0); (try clear hx338_0); (try clear hx345_0); (try clear hx349_0); (try clear hx350_0); (try clear hx354_0); (try clear hx355_0); (try clear hx356_0); (try clear hx357_0); (try clear p2); (try clear p28); (try clear p287); (try clear p288); (try clear p29); (try clear p295); (try clear p299); (try clear p3); (try clear p30); (try clear p300); (try clear p304); (try clear p305); (try clear p31); (try clear p312); (try clear p319); (try clear p32); (try clear p320); (try clear p327); (try clear p328); (try clear p33); (try clear p332); (try clear p333); (try clear p337); (try clear p338); (try clear p34); (try clear p345); (try clear p349); (try clear p35); (try clear p350); (try clear p354); (try clear p355); (try clear p356); (try clear p357); (try clear p6); (try clear p64); (try clear q2); (try clear q28); (try clear q287); (try clear q288); (try clear q29); (try clear q295); (try clear q299); (try clear q3); (try clear q30); (try clear q300); (try clear q304); (try clear q305); (try clear q31); (try clear q312); (try clear q319); (try clear q32); (try clear q320); (try clear q327); (try clear q328); (try clear q33); (try clear q332); (try clear q333); (try clear q337); (try clear q338); (try clear q34); (try clear q345); (try clear q349); (try clear q35); (try clear q350); (try clear q354); (try clear q355); (try clear q356); (try clear q357); (try clear q5)
             obtain ⟨kq, x195_80, rfl, HA, HJ80, HO_1, HK, HB⟩ := hcut
             cases kq with
             | zero => exact absurd HA.out (by simp [pretty_spec.j7])
             | succ kj80 =>
              have H := HA.out
              clear HA
              simp only [pretty_spec.j7] at H
              by_cases c84 : x195_80 = true
              ·
               subst c84
               have H1 : (pretty_spec.l5 kj80 l0 y346 x5_7 (wrap64 ((y346.length : Int) - 2))) = some r := by rw [if_pos rfl] at H; exact H
               clear H
               have H := H1
               clear H1
               have H' := Aside0.mk H
               clear H
               obtain ⟨Ao85, co85, eo85⟩ := Kd.R_slice HO_1.out
               subst eo85
               go_wp2
               try simp only [Act.put, List.setIfInBounds_toArray, List.set_cons_succ, List.set_cons_zero]
               go_loopg [7] kj80 (fun kq v7 w' => ∃ (x1_4 : List Int) (x7_4 : Int), v7 = .int .i64 x7_4 ∧ Aside0 (pretty_spec.l5 kq l0 x1_4 x5_7 x7_4 = some r) ∧ Aside0 (kq ≤ kj80) ∧ Aside0 (Kd.R (Kd.int .u8) 5 w' w0.heap.size (fun k_ => (P1_ k_ ∨ w.heap.size ≤ k_)) (.slice Ao85 y346.length co85) x1_4) ∧ Aside0 (Kept w w' (fun k_ => P1_ k_)) ∧ Aside0 (Below w0.heap.size w0 w'))
               case atStart => exact ⟨(y346), (wrap64 ((y346.length : Int) - 2)), (by first | rfl | (simp; done) | (simp [*]; done) | (simp; rw [Bool.eq_iff_iff]; simp; done)), H', ⟨Nat.le_refl _⟩, ⟨by (with_reducible repeat (first | apply Kd.R_alloc | apply Kd.R_drewN | apply Kd.R_drew)); exact HO_1.out⟩, ⟨by repeat (first | (with_reducible first | exact HK.out | apply Kept.alloc | apply Kept.drewN | apply Kept.drew) | exact HK.out)⟩, ⟨by repeat (first | (with_reducible first | exact HB.out | apply below_alloc | apply pw_below_drewN | apply below_drew1) | exact HB.out)⟩⟩
               case round =>
                as_aux_lemma =>
                clear H'
                (try clear c1); (try clear c2); (try clear p2); (try clear q2); (try clear hx2); (try clear c3); (try clear c3b0); (try clear c3b1); (try clear p3); (try clear q3); (try clear hx3); (try clear c4); (try clear c5); (try clear q5); (try clear c6); (try clear c6b0); (try clear p6); (try clear c7); (try clear c7b0); (try clear c8); (try clear c9); (try clear c9b0); (try clear c9b1); (try clear c10); (try clear c10b0); (try clear c12); (try clear c12b0); (try clear c13); (try clear c13b0); (try clear c14); (try clear c14b0); (try clear c14b1); (try clear c15); (try clear c16); (try clear c20); (try clear c20b0); (try clear c21); (try clear c21b0); (try clear c22); (try clear c22b0); (try clear c22b1); (try clear c23); (try clear c25); (try clear c25b0); (try clear c25b1); (try clear c26); (try clear c28); (try clear c28b0); (try clear c28b1); (try clear p28); (try clear q28); (try clear hx28); (try clear c29); (try clear p29); (try clear q29); (try clear hx29); (try clear p30); (try clear q30); (try clear hx30); (try clear c31); (try clear p31); (try clear q31); (try clear hx31); (try clear p32); (try clear q32); (try clear hx32); (try clear c33); (try clear c33b0); (try clear c33b1); (try clear p33); (try clear q33); (try clear hx33); (try clear c34); (try clear p34); (try clear q34); (try clear hx34); (try clear p35); (try clear q35); (try clear hx35); (try clear c39); (try clear c39b0); (try clear c41); (try clear c41b0); (try clear c42); (try clear c42b0); (try clear c43); (try clear c43b0); (try clear c43b1); (try clear c45); (try clear c45b0); (try clear c46); (try clear c46b0); (try clear c47); (try clear c48); (try clear c53); (try clear c53b0); (try clear c54); (try clear c54b0); (try clear c55); (try clear c55b0); (try clear c55b1); (try clear c56); (try clear c58); (try clear c58b0); (try clear c58b1); (try clear c59); (try clear c61); (try clear c61b0); (try clear c61b1); (try clear c62); (try clear c64); (try clear p64); (try clear c66); (try clear c66b0); (try clear c67); (try clear c67b0); (try clear c68); (try clear c69); (try clear c69b0); (try clear c69b1); (try clear c71); (try clear c71b0); (try clear c72); (try clear c72b0); (try clear c73); (try clear c74); (try clear c74b0); (try clear c74b1); (try clear c76); (try clear c76b0); (try clear c77); (try clear c77b0); (try clear c78); (try clear c78b0); (try clear c78b1); (try clear c79); (try clear c79b0); (try clear c79b1); (try clear c83); (try clear c83b0); (try clear c83b1); (try clear c84); (try clear hx287_0); (try clear hx288_0); (try clear hx295_0); (try clear hx299_0); (try clear hx300_0); (try clear hx304_0); (try clear hx305_0); (try clear hx312_0); (try clear hx319_0); (try clear hx320_0); (try clear hx327_0); (try clear hx328_0); (try clear hx332_0); (try clear hx333_0); (try clear hx337_0); (try clear hx338_0); (try clear hx345_0); (try clear hx349_0); (try clear hx350_0); (try clear hx354_0); (try clear hx355_0); (try clear hx356_0); (try clear hx357_0); (try clear p2); (try clear p28); (try clear p287); (try clear p288); (try clear p29); (try clear p295); (try clear p299); (try clear p3); (try clear p30); (try clear p300); (try clear p304); (try clear p305); (try clear p31); (try clear p312); (try clear p319); (try clear p32); (try clear p320); (try clear p327); (try clear p328); (try clear p33); (try clear p332); (try clear p333); (try clear p337); (try clear p338); (try clear p34); (try clear p345); (try clear p349); (try clear p35); (try clear p350); (try clear p354); (try clear p355); (try clear p356); (try clear p357); (try clear p6); (try clear p64); (try clear q2); (try clear q28); (try clear q287); (try clear q288); (try clear q29); (try clear q295); (try clear q299); (try clear q3); (try clear q30); (try clear q300); (try clear q304); (try clear q305); (try clear q31); (try clear q312); (try clear q319); (try clear q32); (try clear q320); (try clear q327); (try clear q328); (try clear q33); (try clear q332); (try clear q333); (try clear q337); (try clear q338); (try clear q34); (try clear q345); (try clear q349); (try clear q35); (try clear q350); (try clear q354); (try clear q355); (try clear q356); (try clear q357); (try clear q5)
                obtain ⟨x1_4, x7_4, rfl, HA, HK4, HO_1, HK, HB⟩ := hrel
                have hl1_4 := (Kd.R_reads' HO_1.out).1
                rw [hl1_4] at HO_1
                (try simp only [hl1_4])
                cases gk with
                | zero => exact absurd HA.out (by simp [pretty_spec.l5])
                | succ k4 =>
                 have H := HA.out
                 clear HA
                 simp only [pretty_spec.l5] at H
                 by_cases c86 : x7_4 ≥ 0
                 ·
                  rw [if_pos c86] at H
                  have c86b0 : decide (0 ≤ x7_4) = true := decide_eq_true c86
                  clear c86
                  by_cases c87 : 0 ≤ x7_4
                  ·
                   rw [if_pos c87] at H
                   have c87b0 : decide (0 ≤ x7_4) = true := decide_eq_true c87
                   clear c87
                   by_cases c88 : x7_4 < (x1_4.length : Int)
                   ·
                    rw [if_pos c88] at H
                    have c88b0 : decide (x7_4 < (x1_4.length : Int)) = true := decide_eq_true c88
                    clear c88
                    by_cases c89 : (rd x1_4 x7_4) ≤ 32
                    ·
                     rw [if_pos c89] at H
                     have c89b0 : decide ((rd x1_4 x7_4) ≤ 32) = true := decide_eq_true c89
                     clear c89
                     have H' := Aside0.mk H
                     clear H
                     have p358 : 0 ≤ (x7_4 : Int) := of_decide_eq_true (by first | (with_reducible assumption) | assumption)
                     have q358 : x7_4 < (x1_4.length : Int) := of_decide_eq_true (by first | (with_reducible assumption) | assumption)
                     obtain ⟨ad358, e358, hx358_0⟩ := Kd.at_int (Kd.R_reads' HO_1.out).2.2 x7_4 p358 q358
                     cases e358
                     replace p358 := eq_true p358
                     replace q358 := eq_true q358
                     go_wp2
                     (try simp only [← hl1_4])
                     go_roundg k4
                     case measure => have := HK1.out; have := HJ7.out; have := HJ80.out; have := HK4.out; omega
                     case rel => exact ⟨(x1_4), (wrap64 (x7_4 - 1)), (by first | rfl | (simp; done) | (simp [*]; done) | (simp; rw [Bool.eq_iff_iff]; simp; done)), H', ⟨by have := HK1.out; have := HJ7.out; have := HJ80.out; have := HK4.out; omega⟩, ⟨by (try simp only [hl1_4]); (with_reducible repeat (first | apply Kd.R_alloc | apply Kd.R_drewN | apply Kd.R_drew)); exact HO_1.out⟩, ⟨by repeat (first | (with_reducible first | exact HK.out | apply Kept.alloc | apply Kept.drewN | apply Kept.drew) | exact HK.out)⟩, ⟨by repeat (first | (with_reducible first | exact HB.out | apply below_alloc | apply pw_below_drewN | apply below_drew1) | exact HB.out)⟩⟩
                    ·
                     rw [if_neg c89] at H
                     have c89b0 : decide ((rd x1_4 x7_4) ≤ 32) = false := decide_eq_false c89
                     clear c89
                     by_cases c90 : (rd x1_4 x7_4) = 44
                     ·
                      rw [if_pos c90] at H
                      have c90b0 : ((rd x1_4 x7_4) == 44) = true := beq_iff_eq.mpr c90
                      have c90b1 : ((rd x1_4 x7_4) != 44) = false := bne_eq_false_iff_eq.mpr c90
                      clear c90
                      obtain ⟨y360, hy360⟩ : ∃ y_ : List Int, y_ = (x1_4.set (x7_4 : Int).toNat 32) := ⟨_, rfl⟩
                      replace H : (pretty_spec.l0 k4 l0 y360 (wrap64 (x5_7 + 1))) = some r := by first | (rw [hy360]; with_reducible exact H) | (have H2_ := (Option.bind_some _ _).symm.trans H; rw [hy360]; with_reducible exact H2_) | (have H2_ := (Option.bind_some _ _).symm.trans H; with_reducible exact H2_) | with_reducible exact H | (rw [hy360]; exact H) | exact H
                      have Ny360 := Aside0.mk hy360
                      clear hy360
                      have H' := Aside0.mk H
                      clear H
                      have p358 : 0 ≤ (x7_4 : Int) := of_decide_eq_true (by first | (with_reducible assumption) | assumption)
                      have q358 : x7_4 < (x1_4.length : Int) := of_decide_eq_true (by first | (with_reducible assumption) | assumption)
                      obtain ⟨ad358, e358, hx358_0⟩ := Kd.at_int (Kd.R_reads' HO_1.out).2.2 x7_4 p358 q358
                      cases e358
                      replace p358 := eq_true p358
                      replace q358 := eq_true q358
                      have p359 : 0 ≤ (x7_4 : Int) := of_decide_eq_true (by first | (with_reducible assumption) | assumption)
                      have q359 : x7_4 < (x1_4.length : Int) := of_decide_eq_true (by first | (with_reducible assumption) | assumption)
                      obtain ⟨ad359, e359, hx359_0⟩ := Kd.at_int (Kd.R_reads' HO_1.out).2.2 x7_4 p359 q359
                      obtain rfl : ad358 = ad359 := (by injection e359)
                      replace p359 := eq_true p359
                      replace q359 := eq_true q359
                      have p91 : 0 ≤ (x7_4 : Int) := of_decide_eq_true (by first | (with_reducible assumption) | assumption)
                      have q91 : (x7_4 : Int) < ((x1_4.length : Int) : Int) := of_decide_eq_true (by first | (with_reducible assumption) | assumption)
                      obtain ⟨go91, co91, eo91, gb91, gl91, cl91, HG91⟩ := Kd.R_form HO_1.out (by omega)
                      (first | cases eo91 | (injection eo91 with ea_ en_ ec_; (first | subst ea_ | (injection ea_ with ea_; subst ea_)); subst ec_; clear en_))
                      have GB91 := Aside0.mk gb91
                      have GG91 := Aside0.mk HG91
                      clear gb91 gl91 HG91
                      have HMgo91 := Aside0.mk (show (P1_ go91 ∨ w.heap.size ≤ go91) from (HO_1.out.1 _ rfl))
                      (first | simp only [add_plain] at hx358_0 | skip)
                      (first | simp only [add_plain] at hx359_0 | skip)
                      obtain ⟨hx91_0, hf91_0⟩ := Kd.R_celln 0 HO_1.out (x7_4 : Int) p91 q91
                      replace p91 := eq_true p91
                      replace q91 := eq_true q91
                      have HP92 := Kd.R_putg HO_1.out (x7_4 : Int) 32
                      go_wp2_with (first | ((with_reducible refine gate_store (t := 5) (p := 215) rfl ?_); refine store_event (t := 5) (p := 215) (v := ?vo_w93) (w1 := (wr.setCell ⟨go91, (x7_4 : Int).toNat, none⟩ (.int .u8 32))) ?hg ?ho ?hn ?hr ?_; (case ho => rfl); (case hg => rfl); (case hn => rfl); (case hr => first | (go_simp; done) | (go_simp; rfl)); intro w93 hw; have hg : wr.grownBy w93 (some go91) := (by rw [hw]; exact HP92.2); have hp_ : Kd.R (Kd.int .u8) 5 w93 w0.heap.size (fun k_ => (P1_ k_ ∨ w.heap.size ≤ k_)) (.slice (some ⟨go91, 0, none⟩) x1_4.length co85) y360 := (by rw [hw, Ny360.out]; exact HP92.1); clear HP92; have n0_ := Aside0.mk (hp_); have n1_ := Aside0.mk ((by rw [hw]; exact below_set (HB.out) GB91.out : Below w0.heap.size w0 w93)); have n2_ := Aside0.mk (Kept.of_grown (S := (fun k_ => P1_ k_)) hg (by repeat (first | (with_reducible first | exact HK.out | apply Kept.alloc | apply Kept.drewN | apply Kept.drew) | exact HK.out)) (fun k_ e_ => (HO_1.out.1 k_ e_))); clear HO_1; clear HB; clear HK; have HO_1 := n0_; have HB := n1_; have HK := n2_; clear n0_ n1_ n2_; clear hg hw hp_))
                      (try simp only [← hl1_4])
                      go_roundg k4
                      case measure => have := HK1.out; have := HJ7.out; have := HJ80.out; have := HK4.out; omega
                      case rel => exact ⟨(y360), (wrap64 (x5_7 + 1)), (by first | rfl | (simp; done) | (simp [*]; done) | (simp; rw [Bool.eq_iff_iff]; simp; done)), H', ⟨by have := HK1.out; have := HJ7.out; have := HJ80.out; have := HK4.out; omega⟩, ⟨by (try simp only [hl1_4]); (with_reducible repeat (first | apply Kd.R_alloc | apply Kd.R_drewN | apply Kd.R_drew)); exact HO_1.out⟩, ⟨by repeat (first | (with_reducible first | exact HK.out | apply Kept.alloc | apply Kept.drewN | apply Kept.drew) | exact HK.out)⟩, ⟨by repeat (first | (with_reducible first | exact HB.out | apply below_alloc | apply pw_below_drewN | apply below_drew1) | exact HB.out)⟩⟩
                     ·
                      rw [if_neg c90] at H
                      have c90b0 : ((rd x1_4 x7_4) == 44) = false := beq_eq_false_iff_ne.mpr c90
                      have c90b1 : ((rd x1_4 x7_4) != 44) = true := bne_iff_ne.mpr c90
                      have H' := Aside0.mk H
                      clear H
                      have p358 : 0 ≤ (x7_4 : Int) := of_decide_eq_true (by first | (with_reducible assumption) | assumption)
                      have q358 : x7_4 < (x1_4.length : Int) := of_decide_eq_true (by first | (with_reducible assumption) | assumption)
                      obtain ⟨ad358, e358, hx358_0⟩ := Kd.at_int (Kd.R_reads' HO_1.out).2.2 x7_4 p358 q358
                      cases e358
                      replace p358 := eq_true p358
                      replace q358 := eq_true q358
                      have p359 : 0 ≤ (x7_4 : Int) := of_decide_eq_true (by first | (with_reducible assumption) | assumption)
                      have q359 : x7_4 < (x1_4.length : Int) := of_decide_eq_true (by first | (with_reducible assumption) | assumption)
                      obtain ⟨ad359, e359, hx359_0⟩ := Kd.at_int (Kd.R_reads' HO_1.out).2.2 x7_4 p359 q359
                      obtain rfl : ad358 = ad359 := (by injection e359)
                      replace p359 := eq_true p359
                      replace q359 := eq_true q359
                      go_wp2
                      (try simp only [← hl1_4])
                      go_roundg k4
                      case measure => have := HK1.out; have := HJ7.out; have := HJ80.out; have := HK4.out; omega
                      case rel => exact ⟨(x1_4), (wrap64 (x5_7 + 1)), (by first | rfl | (simp; done) | (simp [*]; done) | (simp; rw [Bool.eq_iff_iff]; simp; done)), H', ⟨by have := HK1.out; have := HJ7.out; have := HJ80.out; have := HK4.out; omega⟩, ⟨by (try simp only [hl1_4]); (with_reducible repeat (first | apply Kd.R_alloc | apply Kd.R_drewN | apply Kd.R_drew)); exact HO_1.out⟩, ⟨by repeat (first | (with_reducible first | exact HK.out | apply Kept.alloc | apply Kept.drewN | apply Kept.drew) | exact HK.out)⟩, ⟨by repeat (first | (with_reducible first | exact HB.out | apply below_alloc | apply pw_below_drewN | apply below_drew1) | exact HB.out)⟩⟩
                   ·
                    rw [if_neg c88] at H
                    exact absurd H (by simp)
                  ·
                   rw [if_neg c87] at H
                   exact absurd H (by simp)
                 ·
                  rw [if_neg c86] at H
                  have c86b0 : decide (0 ≤ x7_4) = false := decide_eq_false c86
                  clear c86
                  have H' := Aside0.mk H
                  clear H
                  go_wp2
                  (try simp only [← hl1_4])
                  go_roundg k4
                  case measure => have := HK1.out; have := HJ7.out; have := HJ80.out; have := HK4.out; omega
                  case rel => exact ⟨(x1_4), (wrap64 (x5_7 + 1)), (by first | rfl | (simp; done) | (simp [*]; done) | (simp; rw [Bool.eq_iff_iff]; simp; done)), H', ⟨by have := HK1.out; have := HJ7.out; have := HJ80.out; have := HK4.out; omega⟩, ⟨by (try simp only [hl1_4]); (with_reducible repeat (first | apply Kd.R_alloc | apply Kd.R_drewN | apply Kd.R_drew)); exact HO_1.out⟩, ⟨by repeat (first | (with_reducible first | exact HK.out | apply Kept.alloc | apply Kept.drewN | apply Kept.drew) | exact HK.out)⟩, ⟨by repeat (first | (with_reducible first | exact HB.out | apply below_alloc | apply pw_below_drewN | apply below_drew1) | exact HB.out)⟩⟩
              ·
               replace c84 := Bool.eq_false_iff.mpr c84
               subst c84
               have H1 : (pretty_spec.l0 kj80 l0 y346 (wrap64 (x5_7 + 1))) = some r := by rw [if_neg (show ¬ (false = true) by decide)] at H; exact H
               clear H
               have H := H1
               clear H1
               have H' := Aside0.mk H
               clear H
               go_wp2
               go_roundg kj80
               case measure => have := HK1.out; have := HJ7.out; have := HJ80.out; omega
               case rel => exact ⟨(y346), (wrap64 (x5_7 + 1)), (by first | rfl | (simp; done) | (simp [*]; done) | (simp; rw [Bool.eq_iff_iff]; simp; done)), H', ⟨by have := HK1.out; have := HJ7.out; have := HJ80.out; omega⟩, ⟨by (with_reducible repeat (first | apply Kd.R_alloc | apply Kd.R_drewN | apply Kd.R_drew)); exact HO_1.out⟩, ⟨by repeat (first | (with_reducible first | exact HK.out | apply Kept.alloc | apply Kept.drewN | apply Kept.drew) | exact HK.out)⟩, ⟨by repeat (first | (with_reducible first | exact HB.out | apply below_alloc | apply pw_below_drewN | apply below_drew1) | exact HB.out)⟩⟩
          ·
           rw [if_neg c68] at H
           exact absurd H (by simp)
         ·
          rw [if_neg c67] at H
          exact absurd H (by simp)
        ·
         rw [if_neg c66] at H
         exact absurd H (by simp)
     ·
      rw [if_neg c7] at H
      exact absurd H (by simp)
    ·
     rw [if_neg c6] at H
     have c6b0 : decide (x5_1 < (l0.length : Int)) = false := decide_eq_false c6
     clear c6
     obtain rfl := Option.some.inj H
     go_wp2
     go_ret
     exact ⟨_, by first | rfl | (simp [errW_none, errW_some] <;> rfl) | (simp [*, errW_none, errW_some] <;> rfl), by (with_reducible repeat (first | apply Kd.R_alloc | apply Kd.R_drewN | apply Kd.R_drew)); exact HO_1.out, by repeat (first | (with_reducible first | exact HB.out | apply below_alloc | apply pw_below_drewN | apply below_drew1) | exact HB.out), by repeat (first | (with_reducible first | exact HK.out | apply Kept.alloc | apply Kept.drewN | apply Kept.drew) | exact HK.out)⟩
 ·
  rw [if_neg c3] at H
  exact absurd H (by simp)

end Go.Proofs.Ytdokakhhpcckaaa.MFnPrSpecAgain
