/- What Go functions compute, as functions of numbers and lists, and the walks that show it. No condition. Written by a program (wip/tools/mprint.py) over the kit's print. -/
import Derived.Test.YtifcmhekpbfboaaMFnGjQueryOpen0
import Derived.Test.YtifcmhekpbfboaaMFnGjQueryOpen1
namespace Go.Proofs.Ytifcmhekpbfboaa.MFnGjQueryOpen
open Go.RowKit Go.Proofs.YtifcmhekpbfboaaW.PrintWords Go.Proofs.YtifcmhekpbfboaaW.PrintLast Go.Proofs.YtifcmhekpbfboaaW.PrintMore
attribute [local go_sem] max2_int min2_int max_two min_two max_three min_three max_four min_four   -- for this text's walks alone
set_option linter.unusedVariables false
set_option linter.unusedSimpArgs false

/-! ### laws_FnGjQueryOpen: function 9 -/
mutual
def laws_FnGjQueryOpen.j0 : Nat → ByteArray → ByteArray → Bool → Option (Bool)
 | 0, _, _, _ => none
 | k + 1, x0, x1, x34 => if x34 = true then (some true) else (if (x0.size : Int) > 4096 then (laws_FnGjQueryOpen.j1 k x0 x1 true) else ((laws_gjWord.f k x1).bind fun t115 => (laws_FnGjQueryOpen.j1 k x0 x1 (!t115))))
def laws_FnGjQueryOpen.j1 : Nat → ByteArray → ByteArray → Bool → Option (Bool)
 | 0, _, _, _ => none
 | k + 1, x0, x1, x42 => if x42 = true then (some true) else (if 2 + x1.size ≤ 9223372036854775807 then (if ((⟨#[35, 40]⟩ : ByteArray) ++ x1).size + 1 ≤ 9223372036854775807 then ((impl_GjQuery.f (((⟨#[35, 40]⟩ : ByteArray) ++ x1) ++ (⟨#[41]⟩ : ByteArray))).bind fun bt116 => (if bt116.2.2.2.2.2.2 = true then (if bt116.1.toList = x1.toList then (laws_FnGjQueryOpen.j2 k x0 (bt116.2.1.toList != ([] : List UInt8))) else (laws_FnGjQueryOpen.j2 k x0 true)) else (laws_FnGjQueryOpen.j2 k x0 true))) else (none)) else (none))
def laws_FnGjQueryOpen.j2 : Nat → ByteArray → Bool → Option (Bool)
 | 0, _, _ => none
 | k + 1, x0, x65 => if x65 = true then (some false) else (if (x0.size : Int) ≥ 2 then (if 0 < (x0.size : Int) then (if (bt x0 0) = 35 then (if 1 < (x0.size : Int) then (if (bt x0 1) = 40 then (laws_FnGjQueryOpen.j3 k x0 true) else (laws_FnGjQueryOpen.j3 k x0 ((bt x0 1) == 91))) else (none)) else (laws_FnGjQueryOpen.j3 k x0 false)) else (none)) else (laws_FnGjQueryOpen.j3 k x0 false))
def laws_FnGjQueryOpen.j3 : Nat → ByteArray → Bool → Option (Bool)
 | 0, _, _ => none
 | k + 1, x0, x83 => if x83 = true then (some true) else (laws_FnGjQueryOpen.l0 k x0 0)
def laws_FnGjQueryOpen.l0 : Nat → ByteArray → Int → Option (Bool)
 | 0, _, _ => none
 | k + 1, x0, x12 => if x12 < (x0.size : Int) then (if 0 ≤ x12 then (if (bt x0 x12) = 34 then (some true) else (if (bt x0 x12) = 92 then (some true) else (if (bt x0 x12) = 40 then (some true) else (if (bt x0 x12) = 41 then (some true) else (if (bt x0 x12) = 91 then (some true) else (if (bt x0 x12) = 93 then (some true) else (laws_FnGjQueryOpen.l0 k x0 (wrap64 (x12 + 1))))))))) else (none)) else ((impl_GjQuery.f x0).bind fun bt123 => (if 2 + x0.size ≤ 9223372036854775807 then ((impl_GjQuery.f ((⟨#[35, 40]⟩ : ByteArray) ++ x0)).bind fun bt130 => (if bt123.2.2.2.2.2.2 = true then (some false) else (some (!bt130.2.2.2.2.2.2)))) else (none)))
end
def laws_FnGjQueryOpen.f (k : Nat) (a0 : ByteArray) (a1 : ByteArray) : Option (Bool) := if (a0.size : Int) > 2147483647 then (laws_FnGjQueryOpen.j0 k a0 a1 true) else (laws_FnGjQueryOpen.j0 k a0 a1 (decide ((a1.size : Int) > 2147483647)))
theorem laws_FnGjQueryOpen.mono_l : ∀ k, (∀ y0 y1 y2, LeO (laws_FnGjQueryOpen.j0 k y0 y1 y2) (laws_FnGjQueryOpen.j0 (k + 1) y0 y1 y2)) ∧ (∀ y0 y1 y2, LeO (laws_FnGjQueryOpen.j1 k y0 y1 y2) (laws_FnGjQueryOpen.j1 (k + 1) y0 y1 y2)) ∧ (∀ y0 y1, LeO (laws_FnGjQueryOpen.j2 k y0 y1) (laws_FnGjQueryOpen.j2 (k + 1) y0 y1)) ∧ (∀ y0 y1, LeO (laws_FnGjQueryOpen.j3 k y0 y1) (laws_FnGjQueryOpen.j3 (k + 1) y0 y1)) ∧ (∀ y0 y1, LeO (laws_FnGjQueryOpen.l0 k y0 y1) (laws_FnGjQueryOpen.l0 (k + 1) y0 y1))
 | 0 => ⟨fun _ _ _ r h => by simp [laws_FnGjQueryOpen.j0] at h, fun _ _ _ r h => by simp [laws_FnGjQueryOpen.j1] at h, fun _ _ r h => by simp [laws_FnGjQueryOpen.j2] at h, fun _ _ r h => by simp [laws_FnGjQueryOpen.j3] at h, fun _ _ r h => by simp [laws_FnGjQueryOpen.l0] at h⟩
 | k + 1 => by
  obtain ⟨ih0, ih1, ih2, ih3, ih4⟩ := laws_FnGjQueryOpen.mono_l k
  refine ⟨?_, ?_, ?_, ?_, ?_⟩
  ·
   intro y0 y1 y2
   unfold laws_FnGjQueryOpen.j0
   repeat' first
   | (with_reducible exact ih0 _ _ _)
   | (with_reducible exact ih1 _ _ _)
   | (with_reducible exact ih2 _ _)
   | (with_reducible exact ih3 _ _)
   | (with_reducible exact ih4 _ _)
   | (with_reducible exact laws_gjWord.mono _ _)
   | (with_reducible exact LeO.refl _)
   | (with_reducible exact LeO.none _)
   | (with_reducible refine LeO.ite ?_ ?_)
   | (with_reducible refine LeO.bind ?_ (fun _ => ?_))
   | exact ih0 _ _ _
   | exact ih1 _ _ _
   | exact ih2 _ _
   | exact ih3 _ _
   | exact ih4 _ _
   | exact laws_gjWord.mono _ _
   | exact LeO.none _
   | refine LeO.ite ?_ ?_
   | refine LeO.bind ?_ (fun _ => ?_)
  ·
   intro y0 y1 y2
   unfold laws_FnGjQueryOpen.j1
   repeat' first
   | (with_reducible exact ih0 _ _ _)
   | (with_reducible exact ih1 _ _ _)
   | (with_reducible exact ih2 _ _)
   | (with_reducible exact ih3 _ _)
   | (with_reducible exact ih4 _ _)
   | (with_reducible exact laws_gjWord.mono _ _)
   | (with_reducible exact LeO.refl _)
   | (with_reducible exact LeO.none _)
   | (with_reducible refine LeO.ite ?_ ?_)
   | (with_reducible refine LeO.bind ?_ (fun _ => ?_))
   | exact ih0 _ _ _
   | exact ih1 _ _ _
   | exact ih2 _ _
   | exact ih3 _ _
   | exact ih4 _ _
   | exact laws_gjWord.mono _ _
   | exact LeO.none _
   | refine LeO.ite ?_ ?_
   | refine LeO.bind ?_ (fun _ => ?_)
  ·
   intro y0 y1
   unfold laws_FnGjQueryOpen.j2
   repeat' first
   | (with_reducible exact ih0 _ _ _)
   | (with_reducible exact ih1 _ _ _)
   | (with_reducible exact ih2 _ _)
   | (with_reducible exact ih3 _ _)
   | (with_reducible exact ih4 _ _)
   | (with_reducible exact laws_gjWord.mono _ _)
   | (with_reducible exact LeO.refl _)
   | (with_reducible exact LeO.none _)
   | (with_reducible refine LeO.ite ?_ ?_)
   | (with_reducible refine LeO.bind ?_ (fun _ => ?_))
   | exact ih0 _ _ _
   | exact ih1 _ _ _
   | exact ih2 _ _
   | exact ih3 _ _
   | exact ih4 _ _
   | exact laws_gjWord.mono _ _
   | exact LeO.none _
   | refine LeO.ite ?_ ?_
   | refine LeO.bind ?_ (fun _ => ?_)
  ·
   intro y0 y1
   unfold laws_FnGjQueryOpen.j3
   repeat' first
   | (with_reducible exact ih0 _ _ _)
   | (with_reducible exact ih1 _ _ _)
   | (with_reducible exact ih2 _ _)
   | (with_reducible exact ih3 _ _)
   | (with_reducible exact ih4 _ _)
   | (with_reducible exact laws_gjWord.mono _ _)
   | (with_reducible exact LeO.refl _)
   | (with_reducible exact LeO.none _)
   | (with_reducible refine LeO.ite ?_ ?_)
   | (with_reducible refine LeO.bind ?_ (fun _ => ?_))
   | exact ih0 _ _ _
   | exact ih1 _ _ _
   | exact ih2 _ _
   | exact ih3 _ _
   | exact ih4 _ _
   | exact laws_gjWord.mono _ _
   | exact LeO.none _
   | refine LeO.ite ?_ ?_
   | refine LeO.bind ?_ (fun _ => ?_)
  ·
   intro y0 y1
   unfold laws_FnGjQueryOpen.l0
   repeat' first
   | (with_reducible exact ih0 _ _ _)
   | (with_reducible exact ih1 _ _ _)
   | (with_reducible exact ih2 _ _)
   | (with_reducible exact ih3 _ _)
   | (with_reducible exact ih4 _ _)
   | (with_reducible exact laws_gjWord.mono _ _)
   | (with_reducible exact LeO.refl _)
   | (with_reducible exact LeO.none _)
   | (with_reducible refine LeO.ite ?_ ?_)
   | (with_reducible refine LeO.bind ?_ (fun _ => ?_))
   | exact ih0 _ _ _
   | exact ih1 _ _ _
   | exact ih2 _ _
   | exact ih3 _ _
   | exact ih4 _ _
   | exact laws_gjWord.mono _ _
   | exact LeO.none _
   | refine LeO.ite ?_ ?_
   | refine LeO.bind ?_ (fun _ => ?_)
theorem laws_FnGjQueryOpen.mono : ∀ a0 a1 k, LeO (laws_FnGjQueryOpen.f k a0 a1) (laws_FnGjQueryOpen.f (k + 1) a0 a1) := by
 intro a0 a1 k
 obtain ⟨ih0, ih1, ih2, ih3, ih4⟩ := laws_FnGjQueryOpen.mono_l k
 unfold laws_FnGjQueryOpen.f
 repeat' first
   | (with_reducible exact ih0 _ _ _)
   | (with_reducible exact ih1 _ _ _)
   | (with_reducible exact ih2 _ _)
   | (with_reducible exact ih3 _ _)
   | (with_reducible exact ih4 _ _)
   | (with_reducible exact laws_gjWord.mono _ _)
   | (with_reducible exact LeO.refl _)
   | (with_reducible exact LeO.none _)
   | (with_reducible refine LeO.ite ?_ ?_)
   | (with_reducible refine LeO.bind ?_ (fun _ => ?_))
   | exact ih0 _ _ _
   | exact ih1 _ _ _
   | exact ih2 _ _
   | exact ih3 _ _
   | exact ih4 _ _
   | exact laws_gjWord.mono _ _
   | exact LeO.none _
   | refine LeO.ite ?_ ?_
   | refine LeO.bind ?_ (fun _ => ?_)
set_option maxHeartbeats 8000000 in
set_option maxRecDepth 100000 in
theorem laws_FnGjQueryOpen.calls (k : Nat) (a0 : ByteArray) (a1 : ByteArray) (r : Bool) (w : World) (h : laws_FnGjQueryOpen.f k a0 a1 = some r) :
  Calls Try.prog 9 #[.string a0, .string a1] w fun e w' => e = .returned (.bool r) ∧ Below w.heap.size w w' := by
 have HB := Aside0.mk (Below.refl w.heap.size w)
 have H : (if (a0.size : Int) > 2147483647 then (laws_FnGjQueryOpen.j0 k a0 a1 true) else (laws_FnGjQueryOpen.j0 k a0 a1 (decide ((a1.size : Int) > 2147483647)))) = some r := h
 clear h
 have HC3 := Aside0.mk H
 clear H
 go_enter Try.func9, Try.ntmps9
 go_upto_region 1 with (fail)
 go_cut [34] (fun v34 wc => ∃ (kq : Nat) (x34_2 : Bool), v34 = .bool x34_2 ∧ Aside0 (laws_FnGjQueryOpen.j0 kq a0 a1 x34_2 = some r) ∧ Aside0 (kq ≤ k) ∧ Aside0 (Below w.heap.size w wc))
 case first =>
  have H := HC3.out
  clear HC3
  by_cases c4 : (a0.size : Int) > 2147483647
  ·
   rw [if_pos c4] at H
   have c4b0 : decide (2147483647 < (a0.size : Int)) = true := decide_eq_true c4
   have c4b1 : decide (2147483647 < a0.size) = true := decide_eq_true (by omega)
   clear c4
   (first | rw [c4b0] | (simp only [i64_w, i32_w]; rw [c4b0]) | skip)
   have H' := Aside0.mk H
   clear H
   go_wp2
   go_meet
   case rel => exact ⟨_, (true), (by first | rfl | (simp; done) | (simp [*]; done) | (simp; rw [Bool.eq_iff_iff]; simp; done)), H', ⟨by first | omega | exact Nat.le_refl _⟩, ⟨by repeat (first | (with_reducible first | exact HB.out | apply below_alloc | apply pw_below_drewN | apply below_drew1) | exact HB.out)⟩⟩
  ·
   rw [if_neg c4] at H
   have c4b0 : decide (2147483647 < (a0.size : Int)) = false := decide_eq_false c4
   have c4b1 : decide (2147483647 < a0.size) = false := decide_eq_false (by omega)
   clear c4
   (first | rw [c4b0] | (simp only [i64_w, i32_w]; rw [c4b0]) | skip)
   have H' := Aside0.mk H
   clear H
   go_wp2
   go_meet
   case rel => exact ⟨_, (decide ((a1.size : Int) > 2147483647)), (by first | rfl | (simp; done) | (simp [*]; done) | (simp; rw [Bool.eq_iff_iff]; simp; done)), H', ⟨by first | omega | exact Nat.le_refl _⟩, ⟨by repeat (first | (with_reducible first | exact HB.out | apply below_alloc | apply pw_below_drewN | apply below_drew1) | exact HB.out)⟩⟩
 case rest =>
  clear HC3
  (try clear p2); (try clear c4); (try clear c4b0); (try clear c4b1)
  obtain ⟨kq, x34_2, rfl, HA, HJ2, HB⟩ := hcut
  cases kq with
  | zero => exact absurd HA.out (by simp [laws_FnGjQueryOpen.j0])
  | succ kj2 =>
   have H := HA.out
   clear HA
   simp only [laws_FnGjQueryOpen.j0] at H
   by_cases c5 : x34_2 = true
   ·
    subst c5
    have H1 : (some true) = some r := by rw [if_pos rfl] at H; exact H
    clear H
    have H := H1
    clear H1
    obtain rfl := Option.some.inj H
    go_wp2
    go_ret
    exact ⟨by first | rfl | (simp [errW_none, errW_some] <;> rfl) | (simp [*, errW_none, errW_some] <;> rfl), by repeat (first | (with_reducible first | exact HB.out | apply below_alloc | apply pw_below_drewN | apply below_drew1) | exact HB.out)⟩
   ·
    replace c5 := Bool.eq_false_iff.mpr c5
    subst c5
    have H1 : (if (a0.size : Int) > 4096 then (laws_FnGjQueryOpen.j1 kj2 a0 a1 true) else ((laws_gjWord.f kj2 a1).bind fun t115 => (laws_FnGjQueryOpen.j1 kj2 a0 a1 (!t115)))) = some r := by rw [if_neg (show ¬ (false = true) by decide)] at H; exact H
    clear H
    have H := H1
    clear H1
    have HC6 := Aside0.mk H
    clear H
    go_upto_region 3 with (fail)
    go_cut [42] (fun v42 wc => ∃ (kq : Nat) (x42_5 : Bool), v42 = .bool x42_5 ∧ Aside0 (laws_FnGjQueryOpen.j1 kq a0 a1 x42_5 = some r) ∧ Aside0 (kq ≤ kj2) ∧ Aside0 (Below w.heap.size w wc))
    case first =>
     have H := HC6.out
     clear HC6
     by_cases c7 : (a0.size : Int) > 4096
     ·
      rw [if_pos c7] at H
      have c7b0 : decide (4096 < (a0.size : Int)) = true := decide_eq_true c7
      have c7b1 : decide (4096 < a0.size) = true := decide_eq_true (by omega)
      clear c7
      (first | rw [c7b0] | (simp only [i64_w, i32_w]; rw [c7b0]) | skip)
      have H' := Aside0.mk H
      clear H
      go_wp2
      go_meet
      case rel => exact ⟨_, (true), (by first | rfl | (simp; done) | (simp [*]; done) | (simp; rw [Bool.eq_iff_iff]; simp; done)), H', ⟨by have := HJ2.out; first | omega | exact Nat.le_refl _⟩, ⟨by repeat (first | (with_reducible first | exact HB.out | apply below_alloc | apply pw_below_drewN | apply below_drew1) | exact HB.out)⟩⟩
     ·
      rw [if_neg c7] at H
      have c7b0 : decide (4096 < (a0.size : Int)) = false := decide_eq_false c7
      have c7b1 : decide (4096 < a0.size) = false := decide_eq_false (by omega)
      clear c7
      (first | rw [c7b0] | (simp only [i64_w, i32_w]; rw [c7b0]) | skip)
      replace H := Option.bind_eq_some_iff.mp H
      obtain ⟨t115, A80, H⟩ := H
      replace H : (laws_FnGjQueryOpen.j1 kj2 a0 a1 (!t115)) = some r := H
      have A8 := Aside0.mk A80
      clear A80
      have H' := Aside0.mk H
      clear H
      go_wp2_with (first | (go_at_call 25; (with_reducible refine (laws_gjWord.calls kj2 a1 t115 _ A8.out).mono ?_); rintro e w' ⟨rfl, ⟨nd, rfl⟩⟩))
      go_meet
      case rel => exact ⟨_, (!t115), (by first | rfl | (simp; done) | (simp [*]; done) | (simp; rw [Bool.eq_iff_iff]; simp; done)), H', ⟨by have := HJ2.out; first | omega | exact Nat.le_refl _⟩, ⟨by repeat (first | (with_reducible first | exact HB.out | apply below_alloc | apply pw_below_drewN | apply below_drew1) | exact HB.out)⟩⟩
    case rest =>
     clear HC6
     (try clear p2); (try clear c4); (try clear c4b0); (try clear c4b1); (try clear c5); (try clear c7); (try clear c7b0); (try clear c7b1); (try clear p2)
     obtain ⟨kq, x42_5, rfl, HA, HJ5, HB⟩ := hcut
     cases kq with
     | zero => exact absurd HA.out (by simp [laws_FnGjQueryOpen.j1])
     | succ kj5 =>
      have H := HA.out
      clear HA
      simp only [laws_FnGjQueryOpen.j1] at H
      by_cases c9 : x42_5 = true
      ·
       subst c9
       have H1 : (some true) = some r := by rw [if_pos rfl] at H; exact H
       clear H
       have H := H1
       clear H1
       obtain rfl := Option.some.inj H
       go_wp2
       go_ret
       exact ⟨by first | rfl | (simp [errW_none, errW_some] <;> rfl) | (simp [*, errW_none, errW_some] <;> rfl), by repeat (first | (with_reducible first | exact HB.out | apply below_alloc | apply pw_below_drewN | apply below_drew1) | exact HB.out)⟩
      ·
       replace c9 := Bool.eq_false_iff.mpr c9
       subst c9
       have H1 : (if 2 + a1.size ≤ 9223372036854775807 then (if ((⟨#[35, 40]⟩ : ByteArray) ++ a1).size + 1 ≤ 9223372036854775807 then ((impl_GjQuery.f (((⟨#[35, 40]⟩ : ByteArray) ++ a1) ++ (⟨#[41]⟩ : ByteArray))).bind fun bt116 => (if bt116.2.2.2.2.2.2 = true then (if bt116.1.toList = a1.toList then (laws_FnGjQueryOpen.j2 kj5 a0 (bt116.2.1.toList != ([] : List UInt8))) else (laws_FnGjQueryOpen.j2 kj5 a0 true)) else (laws_FnGjQueryOpen.j2 kj5 a0 true))) else (none)) else (none)) = some r := by rw [if_neg (show ¬ (false = true) by decide)] at H; exact H
       clear H
       have H := H1
       clear H1
       by_cases c10 : 2 + a1.size ≤ 9223372036854775807
       ·
        rw [if_pos c10] at H
        have c10b0 := eq_true c10
        have c10b1 : decide (2 + a1.size ≤ 9223372036854775807) = true := decide_eq_true c10
        try have c10b2 : (9223372036854775807 < 2 + a1.size) = False := eq_false (Nat.not_lt.2 c10)
        by_cases c11 : ((⟨#[35, 40]⟩ : ByteArray) ++ a1).size + 1 ≤ 9223372036854775807
        ·
         rw [if_pos c11] at H
         have c11b0 := eq_true c11
         have c11b1 : decide (((⟨#[35, 40]⟩ : ByteArray) ++ a1).size + 1 ≤ 9223372036854775807) = true := decide_eq_true c11
         have c11b3 : (9223372036854775807 < 2 + a1.size + 1) = False := eq_false (by have h_ := c11; rw [ByteArray.size_append] at h_; have h2_ : (⟨#[35, 40]⟩ : ByteArray).size = 2 := rfl; omega)
         try have c11b2 : (9223372036854775807 < ((⟨#[35, 40]⟩ : ByteArray) ++ a1).size + 1) = False := eq_false (Nat.not_lt.2 c11)
         replace H := Option.bind_eq_some_iff.mp H
         obtain ⟨⟨t116, t117, t118, t119, t120, t121, t122⟩, A120, H⟩ := H
         replace H : (if t122 = true then (if t116.toList = a1.toList then (laws_FnGjQueryOpen.j2 kj5 a0 (t117.toList != ([] : List UInt8))) else (laws_FnGjQueryOpen.j2 kj5 a0 true)) else (laws_FnGjQueryOpen.j2 kj5 a0 true)) = some r := H
         have A12 := Aside0.mk A120
         clear A120
         have HC13 := Aside0.mk H
         clear H
         go_upto_region 6 with (first | ((with_reducible refine gate_callee (f := 24) rfl ?_); refine goesL_ (some 47) rfl rfl Try.func24 (by kernel_rfl) rfl #[.string (((⟨#[35, 40]⟩ : ByteArray) ++ a1) ++ (⟨#[41]⟩ : ByteArray))] rfl (by (try simp only [List.map_toArray, List.map_cons, List.map_nil]); first | done | rfl | (simp only [List.length_drop, List.length_take]; rfl)) ?_; (with_reducible refine (impl_GjQuery.calls (((⟨#[35, 40]⟩ : ByteArray) ++ a1) ++ (⟨#[41]⟩ : ByteArray)) t116 t117 t118 t119 t120 t121 t122 _ A12.out).mono ?_); rintro e w14 ⟨rfl, hb⟩; refine ⟨_, rfl, ?_⟩; have n0_ := Aside0.mk (below_step (by repeat (first | (with_reducible first | exact HB.out | apply below_alloc | apply pw_below_drewN | apply below_drew1) | exact HB.out)) hb); clear HB; have HB := n0_; clear n0_; (try clear hb); (try clear hb2); (try clear hk); (try clear hi)))
         (try simp only [Act.put, List.setIfInBounds_toArray, List.set_cons_zero, List.set_cons_succ])
         go_cut [65] (fun v65 wc => ∃ (kq : Nat) (x65_12 : Bool), v65 = .bool x65_12 ∧ Aside0 (laws_FnGjQueryOpen.j2 kq a0 x65_12 = some r) ∧ Aside0 (kq ≤ kj5) ∧ Aside0 (Below w.heap.size w wc))
         case first =>
          have H := HC13.out
          clear HC13
          by_cases c15 : t122 = true
          ·
           subst c15
           have H1 : (if t116.toList = a1.toList then (laws_FnGjQueryOpen.j2 kj5 a0 (t117.toList != ([] : List UInt8))) else (laws_FnGjQueryOpen.j2 kj5 a0 true)) = some r := by rw [if_pos rfl] at H; exact H
           clear H
           have H := H1
           clear H1
           by_cases c16 : t116.toList = a1.toList
           ·
            rw [if_pos c16] at H
            have c16b0 : (t116.toList == a1.toList) = true := beq_iff_eq.mpr c16
            have c16b1 : (t116.toList != a1.toList) = false := bne_eq_false_iff_eq.mpr c16
            clear c16
            (first | rw [c16b0] | (simp only [i64_w, i32_w]; rw [c16b0]) | skip)
            have H' := Aside0.mk H
            clear H
            go_wp2
            go_meet
            case rel => exact ⟨_, ((t117.toList != ([] : List UInt8))), (by first | rfl | (simp; done) | (simp [*]; done) | (simp; rw [Bool.eq_iff_iff]; simp; done)), H', ⟨by have := HJ2.out; have := HJ5.out; first | omega | exact Nat.le_refl _⟩, ⟨by repeat (first | (with_reducible first | exact HB.out | apply below_alloc | apply pw_below_drewN | apply below_drew1) | exact HB.out)⟩⟩
           ·
            rw [if_neg c16] at H
            have c16b0 : (t116.toList == a1.toList) = false := beq_eq_false_iff_ne.mpr c16
            have c16b1 : (t116.toList != a1.toList) = true := bne_iff_ne.mpr c16
            (first | rw [c16b0] | (simp only [i64_w, i32_w]; rw [c16b0]) | skip)
            have H' := Aside0.mk H
            clear H
            go_wp2
            go_meet
            case rel => exact ⟨_, (true), (by first | rfl | (simp; done) | (simp [*]; done) | (simp; rw [Bool.eq_iff_iff]; simp; done)), H', ⟨by have := HJ2.out; have := HJ5.out; first | omega | exact Nat.le_refl _⟩, ⟨by repeat (first | (with_reducible first | exact HB.out | apply below_alloc | apply pw_below_drewN | apply below_drew1) | exact HB.out)⟩⟩
          ·
           replace c15 := Bool.eq_false_iff.mpr c15
           subst c15
           have H1 : (laws_FnGjQueryOpen.j2 kj5 a0 true) = some r := by rw [if_neg (show ¬ (false = true) by decide)] at H; exact H
           clear H
           have H := H1
           clear H1
           have H' := Aside0.mk H
           clear H
           go_wp2
           go_meet
           case rel => exact ⟨_, (true), (by first | rfl | (simp; done) | (simp [*]; done) | (simp; rw [Bool.eq_iff_iff]; simp; done)), H', ⟨by have := HJ2.out; have := HJ5.out; first | omega | exact Nat.le_refl _⟩, ⟨by repeat (first | (with_reducible first | exact HB.out | apply below_alloc | apply pw_below_drewN | apply below_drew1) | exact HB.out)⟩⟩
         case rest =>
          clear HC13
          (try clear c1); (try clear c2); (try clear p2); (try clear c4); (try clear c4b0); (try clear c4b1); (try clear c5); (try clear c7); (try clear c7b0); (try clear c7b1); (try clear c9); (try clear c10); (try clear c10b0); (try clear c10b1); (try clear c10b2); (try clear c11); (try clear c11b0); (try clear c11b1); (try clear c11b2); (try clear c15); (try clear c16); (try clear c16b0); (try clear c16b1); (try clear p2)
          obtain ⟨kq, x65_12, rfl, HA, HJ12, HB⟩ := hcut
          cases kq with
          | zero => exact absurd HA.out (by simp [laws_FnGjQueryOpen.j2])
          | succ kj12 =>
           have H := HA.out
           clear HA
           simp only [laws_FnGjQueryOpen.j2] at H
           by_cases c17 : x65_12 = true
           ·
            subst c17
            have H1 : (some false) = some r := by rw [if_pos rfl] at H; exact H
            clear H
            have H := H1
            clear H1
            obtain rfl := Option.some.inj H
            go_wp2
            go_ret
            exact ⟨by first | rfl | (simp [errW_none, errW_some] <;> rfl) | (simp [*, errW_none, errW_some] <;> rfl), by repeat (first | (with_reducible first | exact HB.out | apply below_alloc | apply pw_below_drewN | apply below_drew1) | exact HB.out)⟩
           ·
            replace c17 := Bool.eq_false_iff.mpr c17
            subst c17
            have H1 : (if (a0.size : Int) ≥ 2 then (if 0 < (a0.size : Int) then (if (bt a0 0) = 35 then (if 1 < (a0.size : Int) then (if (bt a0 1) = 40 then (laws_FnGjQueryOpen.j3 kj12 a0 true) else (laws_FnGjQueryOpen.j3 kj12 a0 ((bt a0 1) == 91))) else (none)) else (laws_FnGjQueryOpen.j3 kj12 a0 false)) else (none)) else (laws_FnGjQueryOpen.j3 kj12 a0 false)) = some r := by rw [if_neg (show ¬ (false = true) by decide)] at H; exact H
            clear H
            have H := H1
            clear H1
            have HC18 := Aside0.mk H
            clear H
            go_upto_region 8 with (fail)
            go_cut [83] (fun v83 wc => ∃ (kq : Nat) (x83_17 : Bool), v83 = .bool x83_17 ∧ Aside0 (laws_FnGjQueryOpen.j3 kq a0 x83_17 = some r) ∧ Aside0 (kq ≤ kj12) ∧ Aside0 (Below w.heap.size w wc))
            case first =>
             have H := HC18.out
             clear HC18
             by_cases c19 : (a0.size : Int) ≥ 2
             ·
              rw [if_pos c19] at H
              have c19b0 : decide (2 ≤ (a0.size : Int)) = true := decide_eq_true c19
              have c19b1 : decide (2 ≤ a0.size) = true := decide_eq_true (by omega)
              clear c19
              (first | rw [c19b0] | (simp only [i64_w, i32_w]; rw [c19b0]) | skip)
              by_cases c20 : 0 < (a0.size : Int)
              ·
               rw [if_pos c20] at H
               have c20b0 : decide (0 < (a0.size : Int)) = true := decide_eq_true c20
               have c20b1 : decide (0 < a0.size) = true := decide_eq_true (by omega)
               clear c20
               by_cases c22 : (bt a0 0) = 35
               ·
                rw [if_pos c22] at H
                have c22b0 : ((bt a0 0) == 35) = true := beq_iff_eq.mpr c22
                have c22b1 : ((bt a0 0) != 35) = false := bne_eq_false_iff_eq.mpr c22
                clear c22
                by_cases c23 : 1 < (a0.size : Int)
                ·
                 rw [if_pos c23] at H
                 have c23b0 : decide (1 < (a0.size : Int)) = true := decide_eq_true c23
                 have c23b1 : decide (1 < a0.size) = true := decide_eq_true (by omega)
                 clear c23
                 by_cases c25 : (bt a0 1) = 40
                 ·
                  rw [if_pos c25] at H
                  have c25b0 : ((bt a0 1) == 40) = true := beq_iff_eq.mpr c25
                  have c25b1 : ((bt a0 1) != 40) = false := bne_eq_false_iff_eq.mpr c25
                  clear c25
                  have H' := Aside0.mk H
                  clear H
                  have p21 : 0 ≤ (0 : Int) := (by omega)
                  have q21 : 0 < a0.size := (by have : (0 : Int) < (a0.size : Int) := of_decide_eq_true (by first | (with_reducible assumption) | assumption); omega)
                  have hx21 : ∀ h : 0 < a0.size, ((a0[0]'h).toNat : Int) = bt a0 0 := bt_at a0 0
                  clear p21
                  have qi21 : (0 < (a0.size : Int)) = True := eq_true (of_decide_eq_true (by first | (with_reducible assumption) | assumption))
                  replace q21 := eq_true q21
                  have p24 : 0 ≤ (1 : Int) := (by omega)
                  have q24 : 1 < a0.size := (by have : (1 : Int) < (a0.size : Int) := of_decide_eq_true (by first | (with_reducible assumption) | assumption); omega)
                  have hx24 : ∀ h : 1 < a0.size, ((a0[1]'h).toNat : Int) = bt a0 1 := bt_at a0 1
                  clear p24
                  have qi24 : (1 < (a0.size : Int)) = True := eq_true (of_decide_eq_true (by first | (with_reducible assumption) | assumption))
                  replace q24 := eq_true q24
                  go_wp2
                  go_meet
                  case rel => exact ⟨_, (true), (by first | rfl | (simp; done) | (simp [*]; done) | (simp; rw [Bool.eq_iff_iff]; simp; done)), H', ⟨by have := HJ2.out; have := HJ5.out; have := HJ12.out; first | omega | exact Nat.le_refl _⟩, ⟨by repeat (first | (with_reducible first | exact HB.out | apply below_alloc | apply pw_below_drewN | apply below_drew1) | exact HB.out)⟩⟩
                 ·
                  rw [if_neg c25] at H
                  have c25b0 : ((bt a0 1) == 40) = false := beq_eq_false_iff_ne.mpr c25
                  have c25b1 : ((bt a0 1) != 40) = true := bne_iff_ne.mpr c25
                  have H' := Aside0.mk H
                  clear H
                  have p21 : 0 ≤ (0 : Int) := (by omega)
                  have q21 : 0 < a0.size := (by have : (0 : Int) < (a0.size : Int) := of_decide_eq_true (by first | (with_reducible assumption) | assumption); omega)
                  have hx21 : ∀ h : 0 < a0.size, ((a0[0]'h).toNat : Int) = bt a0 0 := bt_at a0 0
                  clear p21
                  have qi21 : (0 < (a0.size : Int)) = True := eq_true (of_decide_eq_true (by first | (with_reducible assumption) | assumption))
                  replace q21 := eq_true q21
                  have p24 : 0 ≤ (1 : Int) := (by omega)
                  have q24 : 1 < a0.size := (by have : (1 : Int) < (a0.size : Int) := of_decide_eq_true (by first | (with_reducible assumption) | assumption); omega)
                  have hx24 : ∀ h : 1 < a0.size, ((a0[1]'h).toNat : Int) = bt a0 1 := bt_at a0 1
                  clear p24
                  have qi24 : (1 < (a0.size : Int)) = True := eq_true (of_decide_eq_true (by first | (with_reducible assumption) | assumption))
                  replace q24 := eq_true q24
                  have p26 : 0 ≤ (1 : Int) := (by omega)
                  have q26 : 1 < a0.size := (by have : (1 : Int) < (a0.size : Int) := of_decide_eq_true (by first | (with_reducible assumption) | assumption); omega)
                  have hx26 : ∀ h : 1 < a0.size, ((a0[1]'h).toNat : Int) = bt a0 1 := bt_at a0 1
                  clear p26
                  have qi26 : (1 < (a0.size : Int)) = True := eq_true (of_decide_eq_true (by first | (with_reducible assumption) | assumption))
                  replace q26 := eq_true q26
                  go_wp2
                  go_meet
                  case rel => exact ⟨_, (((bt a0 1) == 91)), (by first | rfl | (simp; done) | (simp [*]; done) | (simp; rw [Bool.eq_iff_iff]; simp; done)), H', ⟨by have := HJ2.out; have := HJ5.out; have := HJ12.out; first | omega | exact Nat.le_refl _⟩, ⟨by repeat (first | (with_reducible first | exact HB.out | apply below_alloc | apply pw_below_drewN | apply below_drew1) | exact HB.out)⟩⟩
                ·
                 rw [if_neg c23] at H
                 exact absurd H (by simp)
               ·
                rw [if_neg c22] at H
                have c22b0 : ((bt a0 0) == 35) = false := beq_eq_false_iff_ne.mpr c22
                have c22b1 : ((bt a0 0) != 35) = true := bne_iff_ne.mpr c22
                have H' := Aside0.mk H
                clear H
                have p21 : 0 ≤ (0 : Int) := (by omega)
                have q21 : 0 < a0.size := (by have : (0 : Int) < (a0.size : Int) := of_decide_eq_true (by first | (with_reducible assumption) | assumption); omega)
                have hx21 : ∀ h : 0 < a0.size, ((a0[0]'h).toNat : Int) = bt a0 0 := bt_at a0 0
                clear p21
                have qi21 : (0 < (a0.size : Int)) = True := eq_true (of_decide_eq_true (by first | (with_reducible assumption) | assumption))
                replace q21 := eq_true q21
                go_wp2
                go_meet
                case rel => exact ⟨_, (false), (by first | rfl | (simp; done) | (simp [*]; done) | (simp; rw [Bool.eq_iff_iff]; simp; done)), H', ⟨by have := HJ2.out; have := HJ5.out; have := HJ12.out; first | omega | exact Nat.le_refl _⟩, ⟨by repeat (first | (with_reducible first | exact HB.out | apply below_alloc | apply pw_below_drewN | apply below_drew1) | exact HB.out)⟩⟩
              ·
               rw [if_neg c20] at H
               exact absurd H (by simp)
             ·
              rw [if_neg c19] at H
              have c19b0 : decide (2 ≤ (a0.size : Int)) = false := decide_eq_false c19
              have c19b1 : decide (2 ≤ a0.size) = false := decide_eq_false (by omega)
              clear c19
              (first | rw [c19b0] | (simp only [i64_w, i32_w]; rw [c19b0]) | skip)
              have H' := Aside0.mk H
              clear H
              go_wp2
              go_meet
              case rel => exact ⟨_, (false), (by first | rfl | (simp; done) | (simp [*]; done) | (simp; rw [Bool.eq_iff_iff]; simp; done)), H', ⟨by have := HJ2.out; have := HJ5.out; have := HJ12.out; first | omega | exact Nat.le_refl _⟩, ⟨by repeat (first | (with_reducible first | exact HB.out | apply below_alloc | apply pw_below_drewN | apply below_drew1) | exact HB.out)⟩⟩
            case rest =>
             clear HC18
             (try clear c1); (try clear c2); (try clear p2); (try clear q2); (try clear hx2); (try clear qi2); (try clear c4); (try clear c4b0); (try clear c4b1); (try clear c5); (try clear c7); (try clear c7b0); (try clear c7b1); (try clear c9); (try clear c10); (try clear c10b0); (try clear c10b1); (try clear c10b2); (try clear c11); (try clear c11b0); (try clear c11b1); (try clear c11b2); (try clear c15); (try clear c16); (try clear c16b0); (try clear c16b1); (try clear c17); (try clear c19); (try clear c19b0); (try clear c19b1); (try clear c20); (try clear c20b0); (try clear c20b1); (try clear p21); (try clear q21); (try clear hx21); (try clear qi21); (try clear c22); (try clear c22b0); (try clear c22b1); (try clear c23); (try clear c23b0); (try clear c23b1); (try clear c24); (try clear p24); (try clear q24); (try clear hx24); (try clear qi24); (try clear c25); (try clear c25b0); (try clear c25b1); (try clear p26); (try clear q26); (try clear hx26); (try clear qi26); (try clear p2); (try clear p21); (try clear p24); (try clear p26); (try clear q21); (try clear q24); (try clear q26)
             obtain ⟨kq, x83_17, rfl, HA, HJ17, HB⟩ := hcut
             cases kq with
             | zero => exact absurd HA.out (by simp [laws_FnGjQueryOpen.j3])
             | succ kj17 =>
              have H := HA.out
              clear HA
              simp only [laws_FnGjQueryOpen.j3] at H
              by_cases c27 : x83_17 = true
              ·
               subst c27
               have H1 : (some true) = some r := by rw [if_pos rfl] at H; exact H
               clear H
               have H := H1
               clear H1
               obtain rfl := Option.some.inj H
               go_wp2
               go_ret
               exact ⟨by first | rfl | (simp [errW_none, errW_some] <;> rfl) | (simp [*, errW_none, errW_some] <;> rfl), by repeat (first | (with_reducible first | exact HB.out | apply below_alloc | apply pw_below_drewN | apply below_drew1) | exact HB.out)⟩
              ·
               replace c27 := Bool.eq_false_iff.mpr c27
               subst c27
               have H1 : (laws_FnGjQueryOpen.l0 kj17 a0 0) = some r := by rw [if_neg (show ¬ (false = true) by decide)] at H; exact H
               clear H
               have H := H1
               clear H1
               have H' := Aside0.mk H
               clear H
               go_wp2
               go_loopg [12] kj17 (fun kq v12 w' => ∃ (x12_5 : Int), v12 = .int .i64 x12_5 ∧ Aside0 (laws_FnGjQueryOpen.l0 kq a0 x12_5 = some r) ∧ Aside0 (kq ≤ kj17) ∧ Aside0 (Below w.heap.size w w'))
               case atStart => exact ⟨(0), (by first | rfl | (simp; done) | (simp [*]; done) | (simp; rw [Bool.eq_iff_iff]; simp; done)), H', ⟨Nat.le_refl _⟩, ⟨by repeat (first | (with_reducible first | exact HB.out | apply below_alloc | apply pw_below_drewN | apply below_drew1) | exact HB.out)⟩⟩
               case round =>
                clear H'
                (try clear c1); (try clear c2); (try clear p2); (try clear q2); (try clear hx2); (try clear qi2); (try clear c4); (try clear c4b0); (try clear c4b1); (try clear c5); (try clear c7); (try clear c7b0); (try clear c7b1); (try clear c9); (try clear c10); (try clear c10b0); (try clear c10b1); (try clear c10b2); (try clear c11); (try clear c11b0); (try clear c11b1); (try clear c11b2); (try clear c15); (try clear c16); (try clear c16b0); (try clear c16b1); (try clear c17); (try clear c19); (try clear c19b0); (try clear c19b1); (try clear c20); (try clear c20b0); (try clear c20b1); (try clear p21); (try clear q21); (try clear hx21); (try clear qi21); (try clear c22); (try clear c22b0); (try clear c22b1); (try clear c23); (try clear c23b0); (try clear c23b1); (try clear c24); (try clear p24); (try clear q24); (try clear hx24); (try clear qi24); (try clear c25); (try clear c25b0); (try clear c25b1); (try clear p26); (try clear q26); (try clear hx26); (try clear qi26); (try clear c27); (try clear p2); (try clear p21); (try clear p24); (try clear p26); (try clear q2); (try clear q21); (try clear q24); (try clear q26)
                obtain ⟨x12_5, rfl, HA, HK5, HB⟩ := hrel
                cases gk with
                | zero => exact absurd HA.out (by simp [laws_FnGjQueryOpen.l0])
                | succ k5 =>
                 have H := HA.out
                 clear HA
                 simp only [laws_FnGjQueryOpen.l0] at H
                 by_cases c28 : x12_5 < (a0.size : Int)
                 ·
                  rw [if_pos c28] at H
                  have c28b0 : decide (x12_5 < (a0.size : Int)) = true := decide_eq_true c28
                  clear c28
                  by_cases c29 : 0 ≤ x12_5
                  ·
                   rw [if_pos c29] at H
                   have c29b0 : decide (0 ≤ x12_5) = true := decide_eq_true c29
                   clear c29
                   by_cases c31 : (bt a0 x12_5) = 34
                   ·
                    rw [if_pos c31] at H
                    have c31b0 : ((bt a0 x12_5) == 34) = true := beq_iff_eq.mpr c31
                    have c31b1 : ((bt a0 x12_5) != 34) = false := bne_eq_false_iff_eq.mpr c31
                    clear c31
                    obtain rfl := Option.some.inj H
                    have p30 : 0 ≤ (x12_5 : Int) := of_decide_eq_true (by first | (with_reducible assumption) | assumption)
                    have q30 : x12_5 < (a0.size : Int) := of_decide_eq_true (by first | (with_reducible assumption) | assumption)
                    have hx30 := bt_at a0 x12_5
                    replace p30 := eq_true p30
                    replace q30 := eq_true q30
                    go_wp2
                    go_ret
                    exact ⟨by first | rfl | (simp [errW_none, errW_some] <;> rfl) | (simp [*, errW_none, errW_some] <;> rfl), by repeat (first | (with_reducible first | exact HB.out | apply below_alloc | apply pw_below_drewN | apply below_drew1) | exact HB.out)⟩
                   ·
                    rw [if_neg c31] at H
                    have c31b0 : ((bt a0 x12_5) == 34) = false := beq_eq_false_iff_ne.mpr c31
                    have c31b1 : ((bt a0 x12_5) != 34) = true := bne_iff_ne.mpr c31
                    by_cases c32 : (bt a0 x12_5) = 92
                    ·
                     rw [if_pos c32] at H
                     have c32b0 : ((bt a0 x12_5) == 92) = true := beq_iff_eq.mpr c32
                     have c32b1 : ((bt a0 x12_5) != 92) = false := bne_eq_false_iff_eq.mpr c32
                     clear c32
                     obtain rfl := Option.some.inj H
                     have p30 : 0 ≤ (x12_5 : Int) := of_decide_eq_true (by first | (with_reducible assumption) | assumption)
                     have q30 : x12_5 < (a0.size : Int) := of_decide_eq_true (by first | (with_reducible assumption) | assumption)
                     have hx30 := bt_at a0 x12_5
                     replace p30 := eq_true p30
                     replace q30 := eq_true q30
                     go_wp2
                     go_ret
                     exact ⟨by first | rfl | (simp [errW_none, errW_some] <;> rfl) | (simp [*, errW_none, errW_some] <;> rfl), by repeat (first | (with_reducible first | exact HB.out | apply below_alloc | apply pw_below_drewN | apply below_drew1) | exact HB.out)⟩
                    ·
                     rw [if_neg c32] at H
                     have c32b0 : ((bt a0 x12_5) == 92) = false := beq_eq_false_iff_ne.mpr c32
                     have c32b1 : ((bt a0 x12_5) != 92) = true := bne_iff_ne.mpr c32
                     by_cases c33 : (bt a0 x12_5) = 40
                     ·
                      rw [if_pos c33] at H
                      have c33b0 : ((bt a0 x12_5) == 40) = true := beq_iff_eq.mpr c33
                      have c33b1 : ((bt a0 x12_5) != 40) = false := bne_eq_false_iff_eq.mpr c33
                      clear c33
                      obtain rfl := Option.some.inj H
                      have p30 : 0 ≤ (x12_5 : Int) := of_decide_eq_true (by first | (with_reducible assumption) | assumption)
                      have q30 : x12_5 < (a0.size : Int) := of_decide_eq_true (by first | (with_reducible assumption) | assumption)
                      have hx30 := bt_at a0 x12_5
                      replace p30 := eq_true p30
                      replace q30 := eq_true q30
                      go_wp2
                      go_ret
                      exact ⟨by first | rfl | (simp [errW_none, errW_some] <;> rfl) | (simp [*, errW_none, errW_some] <;> rfl), by repeat (first | (with_reducible first | exact HB.out | apply below_alloc | apply pw_below_drewN | apply below_drew1) | exact HB.out)⟩
                     ·
                      rw [if_neg c33] at H
                      have c33b0 : ((bt a0 x12_5) == 40) = false := beq_eq_false_iff_ne.mpr c33
                      have c33b1 : ((bt a0 x12_5) != 40) = true := bne_iff_ne.mpr c33
                      by_cases c34 : (bt a0 x12_5) = 41
                      ·
                       rw [if_pos c34] at H
                       have c34b0 : ((bt a0 x12_5) == 41) = true := beq_iff_eq.mpr c34
                       have c34b1 : ((bt a0 x12_5) != 41) = false := bne_eq_false_iff_eq.mpr c34
                       clear c34
                       obtain rfl := Option.some.inj H
                       have p30 : 0 ≤ (x12_5 : Int) := of_decide_eq_true (by first | (with_reducible assumption) | assumption)
                       have q30 : x12_5 < (a0.size : Int) := of_decide_eq_true (by first | (with_reducible assumption) | assumption)
                       have hx30 := bt_at a0 x12_5
                       replace p30 := eq_true p30
                       replace q30 := eq_true q30
                       go_wp2
                       go_ret
                       exact ⟨by first | rfl | (simp [errW_none, errW_some] <;> rfl) | (simp [*, errW_none, errW_some] <;> rfl), by repeat (first | (with_reducible first | exact HB.out | apply below_alloc | apply pw_below_drewN | apply below_drew1) | exact HB.out)⟩
                      ·
                       rw [if_neg c34] at H
                       have c34b0 : ((bt a0 x12_5) == 41) = false := beq_eq_false_iff_ne.mpr c34
                       have c34b1 : ((bt a0 x12_5) != 41) = true := bne_iff_ne.mpr c34
                       by_cases c35 : (bt a0 x12_5) = 91
                       ·
                        rw [if_pos c35] at H
                        have c35b0 : ((bt a0 x12_5) == 91) = true := beq_iff_eq.mpr c35
                        have c35b1 : ((bt a0 x12_5) != 91) = false := bne_eq_false_iff_eq.mpr c35
                        clear c35
                        obtain rfl := Option.some.inj H
                        have p30 : 0 ≤ (x12_5 : Int) := of_decide_eq_true (by first | (with_reducible assumption) | assumption)
                        have q30 : x12_5 < (a0.size : Int) := of_decide_eq_true (by first | (with_reducible assumption) | assumption)
                        have hx30 := bt_at a0 x12_5
                        replace p30 := eq_true p30
                        replace q30 := eq_true q30
                        go_wp2
                        go_ret
                        exact ⟨by first | rfl | (simp [errW_none, errW_some] <;> rfl) | (simp [*, errW_none, errW_some] <;> rfl), by repeat (first | (with_reducible first | exact HB.out | apply below_alloc | apply pw_below_drewN | apply below_drew1) | exact HB.out)⟩
                       ·
                        rw [if_neg c35] at H
                        have c35b0 : ((bt a0 x12_5) == 91) = false := beq_eq_false_iff_ne.mpr c35
                        have c35b1 : ((bt a0 x12_5) != 91) = true := bne_iff_ne.mpr c35
                        by_cases c36 : (bt a0 x12_5) = 93
                        ·
                         rw [if_pos c36] at H
                         have c36b0 : ((bt a0 x12_5) == 93) = true := beq_iff_eq.mpr c36
                         have c36b1 : ((bt a0 x12_5) != 93) = false := bne_eq_false_iff_eq.mpr c36
                         clear c36
                         obtain rfl := Option.some.inj H
                         have p30 : 0 ≤ (x12_5 : Int) := of_decide_eq_true (by first | (with_reducible assumption) | assumption)
                         have q30 : x12_5 < (a0.size : Int) := of_decide_eq_true (by first | (with_reducible assumption) | assumption)
                         have hx30 := bt_at a0 x12_5
                         replace p30 := eq_true p30
                         replace q30 := eq_true q30
                         go_wp2
                         go_ret
                         exact ⟨by first | rfl | (simp [errW_none, errW_some] <;> rfl) | (simp [*, errW_none, errW_some] <;> rfl), by repeat (first | (with_reducible first | exact HB.out | apply below_alloc | apply pw_below_drewN | apply below_drew1) | exact HB.out)⟩
                        ·
                         rw [if_neg c36] at H
                         have c36b0 : ((bt a0 x12_5) == 93) = false := beq_eq_false_iff_ne.mpr c36
                         have c36b1 : ((bt a0 x12_5) != 93) = true := bne_iff_ne.mpr c36
                         have H' := Aside0.mk H
                         clear H
                         have p30 : 0 ≤ (x12_5 : Int) := of_decide_eq_true (by first | (with_reducible assumption) | assumption)
                         have q30 : x12_5 < (a0.size : Int) := of_decide_eq_true (by first | (with_reducible assumption) | assumption)
                         have hx30 := bt_at a0 x12_5
                         replace p30 := eq_true p30
                         replace q30 := eq_true q30
                         go_wp2
                         go_roundg k5
                         case measure => have := HJ2.out; have := HJ5.out; have := HJ12.out; have := HJ17.out; have := HK5.out; omega
                         case rel => exact ⟨(wrap64 (x12_5 + 1)), (by first | rfl | (simp; done) | (simp [*]; done) | (simp; rw [Bool.eq_iff_iff]; simp; done)), H', ⟨by have := HJ2.out; have := HJ5.out; have := HJ12.out; have := HJ17.out; have := HK5.out; omega⟩, ⟨by repeat (first | (with_reducible first | exact HB.out | apply below_alloc | apply pw_below_drewN | apply below_drew1) | exact HB.out)⟩⟩
                  ·
                   rw [if_neg c29] at H
                   exact absurd H (by simp)
                 ·
                  rw [if_neg c28] at H
                  have c28b0 : decide (x12_5 < (a0.size : Int)) = false := decide_eq_false c28
                  clear c28
                  replace H := Option.bind_eq_some_iff.mp H
                  obtain ⟨⟨t123, t124, t125, t126, t127, t128, t129⟩, A370, H⟩ := H
                  replace H : (if 2 + a0.size ≤ 9223372036854775807 then ((impl_GjQuery.f ((⟨#[35, 40]⟩ : ByteArray) ++ a0)).bind fun bt130 => (if t129 = true then (some false) else (some (!bt130.2.2.2.2.2.2)))) else (none)) = some r := H
                  have A37 := Aside0.mk A370
                  clear A370
                  by_cases c38 : 2 + a0.size ≤ 9223372036854775807
                  ·
                   rw [if_pos c38] at H
                   have c38b0 := eq_true c38
                   have c38b1 : decide (2 + a0.size ≤ 9223372036854775807) = true := decide_eq_true c38
                   try have c38b2 : (9223372036854775807 < 2 + a0.size) = False := eq_false (Nat.not_lt.2 c38)
                   replace H := Option.bind_eq_some_iff.mp H
                   obtain ⟨⟨t130, t131, t132, t133, t134, t135, t136⟩, A390, H⟩ := H
                   replace H : (if t129 = true then (some false) else (some (!t136))) = some r := H
                   have A39 := Aside0.mk A390
                   clear A390
                   by_cases c40 : t129 = true
                   ·
                    subst c40
                    have H1 : (some false) = some r := by rw [if_pos rfl] at H; exact H
                    clear H
                    have H := H1
                    clear H1
                    obtain rfl := Option.some.inj H
                    go_wp2_with (first | ((with_reducible refine gate_callee (f := 24) rfl ?_); refine goesL_ (some 102) rfl rfl Try.func24 (by kernel_rfl) rfl #[.string a0] rfl (by (try simp only [List.map_toArray, List.map_cons, List.map_nil]); first | done | rfl | (simp only [List.length_drop, List.length_take]; rfl)) ?_; (with_reducible refine (impl_GjQuery.calls a0 t123 t124 t125 t126 t127 t128 true _ A37.out).mono ?_); rintro e w41 ⟨rfl, hb⟩; refine ⟨_, rfl, ?_⟩; have n0_ := Aside0.mk (below_step (by repeat (first | (with_reducible first | exact HB.out | apply below_alloc | apply pw_below_drewN | apply below_drew1) | exact HB.out)) hb); clear HB; have HB := n0_; clear n0_; (try clear hb); (try clear hb2); (try clear hk); (try clear hi)) | ((with_reducible refine gate_callee (f := 24) rfl ?_); refine goesL_ (some 113) rfl rfl Try.func24 (by kernel_rfl) rfl #[.string ((⟨#[35, 40]⟩ : ByteArray) ++ a0)] rfl (by (try simp only [List.map_toArray, List.map_cons, List.map_nil]); first | done | rfl | (simp only [List.length_drop, List.length_take]; rfl)) ?_; (with_reducible refine (impl_GjQuery.calls ((⟨#[35, 40]⟩ : ByteArray) ++ a0) t130 t131 t132 t133 t134 t135 t136 _ A39.out).mono ?_); rintro e w42 ⟨rfl, hb⟩; refine ⟨_, rfl, ?_⟩; have n0_ := Aside0.mk (below_step (by repeat (first | (with_reducible first | exact HB.out | apply below_alloc | apply pw_below_drewN | apply below_drew1) | exact HB.out)) hb); clear HB; have HB := n0_; clear n0_; (try clear hb); (try clear hb2); (try clear hk); (try clear hi)))
                    go_ret
                    exact ⟨by first | rfl | (simp [errW_none, errW_some] <;> rfl) | (simp [*, errW_none, errW_some] <;> rfl), by repeat (first | (with_reducible first | exact HB.out | apply below_alloc | apply pw_below_drewN | apply below_drew1) | exact HB.out)⟩
                   ·
                    replace c40 := Bool.eq_false_iff.mpr c40
                    subst c40
                    have H1 : (some (!t136)) = some r := by rw [if_neg (show ¬ (false = true) by decide)] at H; exact H
                    clear H
                    have H := H1
                    clear H1
                    obtain rfl := Option.some.inj H
                    go_wp2_with (first | ((with_reducible refine gate_callee (f := 24) rfl ?_); refine goesL_ (some 102) rfl rfl Try.func24 (by kernel_rfl) rfl #[.string a0] rfl (by (try simp only [List.map_toArray, List.map_cons, List.map_nil]); first | done | rfl | (simp only [List.length_drop, List.length_take]; rfl)) ?_; (with_reducible refine (impl_GjQuery.calls a0 t123 t124 t125 t126 t127 t128 false _ A37.out).mono ?_); rintro e w43 ⟨rfl, hb⟩; refine ⟨_, rfl, ?_⟩; have n0_ := Aside0.mk (below_step (by repeat (first | (with_reducible first | exact HB.out | apply below_alloc | apply pw_below_drewN | apply below_drew1) | exact HB.out)) hb); clear HB; have HB := n0_; clear n0_; (try clear hb); (try clear hb2); (try clear hk); (try clear hi)) | ((with_reducible refine gate_callee (f := 24) rfl ?_); refine goesL_ (some 113) rfl rfl Try.func24 (by kernel_rfl) rfl #[.string ((⟨#[35, 40]⟩ : ByteArray) ++ a0)] rfl (by (try simp only [List.map_toArray, List.map_cons, List.map_nil]); first | done | rfl | (simp only [List.length_drop, List.length_take]; rfl)) ?_; (with_reducible refine (impl_GjQuery.calls ((⟨#[35, 40]⟩ : ByteArray) ++ a0) t130 t131 t132 t133 t134 t135 t136 _ A39.out).mono ?_); rintro e w44 ⟨rfl, hb⟩; refine ⟨_, rfl, ?_⟩; have n0_ := Aside0.mk (below_step (by repeat (first | (with_reducible first | exact HB.out | apply below_alloc | apply pw_below_drewN | apply below_drew1) | exact HB.out)) hb); clear HB; have HB := n0_; clear n0_; (try clear hb); (try clear hb2); (try clear hk); (try clear hi)))
                    go_ret
                    exact ⟨by first | rfl | (simp [errW_none, errW_some] <;> rfl) | (simp [*, errW_none, errW_some] <;> rfl), by repeat (first | (with_reducible first | exact HB.out | apply below_alloc | apply pw_below_drewN | apply below_drew1) | exact HB.out)⟩
                  ·
                   rw [if_neg c38] at H
                   exact absurd H (by simp)
        ·
         rw [if_neg c11] at H
         exact absurd H (by simp)
       ·
        rw [if_neg c10] at H
        exact absurd H (by simp)

/-- THE ONE PURE STATEMENT of laws_FnGjQueryOpen: yours. -/
def laws_FnGjQueryOpen.Pure : Prop := ∀ (a0 : ByteArray) (a1 : ByteArray), a0.size ≤ 140737488351232 → a1.size ≤ 140737488351232 → ∃ k, laws_FnGjQueryOpen.f k a0 a1 = some true
theorem laws_FnGjQueryOpen.walk (P : laws_FnGjQueryOpen.Pure) (a0 : ByteArray) (a1 : ByteArray) (w : World) (w0 : a0.size ≤ 140737488351232) (w1 : a1.size ≤ 140737488351232) :
  Calls Try.prog 9 #[.string a0, .string a1] w fun e w' => e = .returned (.bool true) ∧ Below w.heap.size w w' := by
 obtain ⟨k, h⟩ := P a0 a1 w0 w1
 refine (laws_FnGjQueryOpen.calls k a0 a1 true w h).mono ?_
 rintro e w' ⟨rfl, hd⟩
 exact ⟨rfl, hd⟩

end Go.Proofs.Ytifcmhekpbfboaa.MFnGjQueryOpen
