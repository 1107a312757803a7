/- What Go functions compute, as functions of numbers and lists, and the walks that show it. No condition. Written by a program (wip/tools/mprint.py) over the kit's print. -/
import Derived.Test.YtnidncohhinjbaaDoorMFnFjCheckElements0
import Derived.Test.YtnidncohhinjbaaDoorFfU
import Derived.Test.YtnidncohhinjbaaDoorFjGiv
namespace Go.Proofs.YtnidncohhinjbaaDoor.MFnFjCheckElements
open Go.RowKit Go.Proofs.YtnidncohhinjbaaDoorW.PrintWords Go.Proofs.YtnidncohhinjbaaDoorW.PrintLast Go.Proofs.YtnidncohhinjbaaDoorW.PrintMore
attribute [local go_sem] max2_int min2_int max_two min_two max_three min_three max_four min_four   -- for this text's walks alone
set_option linter.unusedVariables false
set_option linter.unusedSimpArgs false

/-! ### laws_fjElements: function 16 -/
mutual
def laws_fjElements.j0 : Nat → ByteArray → Bool → Option (ByteArray × Bool)
 | 0, _, _ => none
 | k + 1, x0, x14 => if x14 = true then (if 1 ≤ (x0.size : Int) then (some (x0.extract 1 x0.size, true)) else (none)) else (laws_fjElements.l0 k x0)
def laws_fjElements.l0 : Nat → ByteArray → Option (ByteArray × Bool)
 | 0, _ => none
 | k + 1, x0 => (impl_FjSkip.f x0).bind fun t102 => ((impl_FjCheckValue.f t102).bind fun bt103 => (if bt103.2 = true then (laws_fjElements.j2 k bt103.1 (decide ((bt103.1.size : Int) ≥ (x0.size : Int)))) else (laws_fjElements.j2 k bt103.1 true)))
def laws_fjElements.j2 : Nat → ByteArray → Bool → Option (ByteArray × Bool)
 | 0, _, _ => none
 | k + 1, x4, x31 => if x31 = true then (some ((⟨#[]⟩ : ByteArray), false)) else ((impl_FjSkip.f x4).bind fun t105 => (if t105.toList = ([] : List UInt8) then (laws_fjElements.j3 k t105 true) else (if 0 < (t105.size : Int) then (if (bt t105 0) = 44 then (laws_fjElements.j3 k t105 false) else (laws_fjElements.j3 k t105 ((bt t105 0) != 93))) else (none))))
def laws_fjElements.j3 : Nat → ByteArray → Bool → Option (ByteArray × Bool)
 | 0, _, _ => none
 | k + 1, x0, x45 => if x45 = true then (some ((⟨#[]⟩ : ByteArray), false)) else (if 0 < (x0.size : Int) then (if (bt x0 0) = 93 then (if 1 ≤ (x0.size : Int) then (some (x0.extract 1 x0.size, true)) else (none)) else (if 1 ≤ (x0.size : Int) then (laws_fjElements.l0 k (x0.extract 1 x0.size)) else (none))) else (none))
end
def laws_fjElements.f (k : Nat) (a0 : ByteArray) : Option (ByteArray × Bool) := (impl_FjSkip.f a0).bind fun t101 => (if t101.toList = ([] : List UInt8) then (laws_fjElements.j0 k t101 false) else (if 0 < (t101.size : Int) then (laws_fjElements.j0 k t101 ((bt t101 0) == 93)) else (none)))
theorem laws_fjElements.mono_l : ∀ k, (∀ y0 y1, LeO (laws_fjElements.j0 k y0 y1) (laws_fjElements.j0 (k + 1) y0 y1)) ∧ (∀ y0, LeO (laws_fjElements.l0 k y0) (laws_fjElements.l0 (k + 1) y0)) ∧ (∀ y0 y1, LeO (laws_fjElements.j2 k y0 y1) (laws_fjElements.j2 (k + 1) y0 y1)) ∧ (∀ y0 y1, LeO (laws_fjElements.j3 k y0 y1) (laws_fjElements.j3 (k + 1) y0 y1))
 | 0 => ⟨fun _ _ r h => by simp [laws_fjElements.j0] at h, fun _ r h => by simp [laws_fjElements.l0] at h, fun _ _ r h => by simp [laws_fjElements.j2] at h, fun _ _ r h => by simp [laws_fjElements.j3] at h⟩
 | k + 1 => by
  obtain ⟨ih0, ih1, ih2, ih3⟩ := laws_fjElements.mono_l k
  refine ⟨?_, ?_, ?_, ?_⟩
  ·
   intro y0 y1
   unfold laws_fjElements.j0
   repeat' first
   | (with_reducible exact ih0 _ _)
   | (with_reducible exact ih1 _)
   | (with_reducible exact ih2 _ _)
   | (with_reducible exact ih3 _ _)
   | (with_reducible exact LeO.refl _)
   | (with_reducible exact LeO.none _)
   | (with_reducible refine LeO.ite ?_ ?_)
   | (with_reducible refine LeO.bind ?_ (fun _ => ?_))
   | exact ih0 _ _
   | exact ih1 _
   | exact ih2 _ _
   | exact ih3 _ _
   | exact LeO.none _
   | refine LeO.ite ?_ ?_
   | refine LeO.bind ?_ (fun _ => ?_)
  ·
   intro y0
   unfold laws_fjElements.l0
   repeat' first
   | (with_reducible exact ih0 _ _)
   | (with_reducible exact ih1 _)
   | (with_reducible exact ih2 _ _)
   | (with_reducible exact ih3 _ _)
   | (with_reducible exact LeO.refl _)
   | (with_reducible exact LeO.none _)
   | (with_reducible refine LeO.ite ?_ ?_)
   | (with_reducible refine LeO.bind ?_ (fun _ => ?_))
   | exact ih0 _ _
   | exact ih1 _
   | exact ih2 _ _
   | exact ih3 _ _
   | exact LeO.none _
   | refine LeO.ite ?_ ?_
   | refine LeO.bind ?_ (fun _ => ?_)
  ·
   intro y0 y1
   unfold laws_fjElements.j2
   repeat' first
   | (with_reducible exact ih0 _ _)
   | (with_reducible exact ih1 _)
   | (with_reducible exact ih2 _ _)
   | (with_reducible exact ih3 _ _)
   | (with_reducible exact LeO.refl _)
   | (with_reducible exact LeO.none _)
   | (with_reducible refine LeO.ite ?_ ?_)
   | (with_reducible refine LeO.bind ?_ (fun _ => ?_))
   | exact ih0 _ _
   | exact ih1 _
   | exact ih2 _ _
   | exact ih3 _ _
   | exact LeO.none _
   | refine LeO.ite ?_ ?_
   | refine LeO.bind ?_ (fun _ => ?_)
  ·
   intro y0 y1
   unfold laws_fjElements.j3
   repeat' first
   | (with_reducible exact ih0 _ _)
   | (with_reducible exact ih1 _)
   | (with_reducible exact ih2 _ _)
   | (with_reducible exact ih3 _ _)
   | (with_reducible exact LeO.refl _)
   | (with_reducible exact LeO.none _)
   | (with_reducible refine LeO.ite ?_ ?_)
   | (with_reducible refine LeO.bind ?_ (fun _ => ?_))
   | exact ih0 _ _
   | exact ih1 _
   | exact ih2 _ _
   | exact ih3 _ _
   | exact LeO.none _
   | refine LeO.ite ?_ ?_
   | refine LeO.bind ?_ (fun _ => ?_)
theorem laws_fjElements.mono : ∀ a0 k, LeO (laws_fjElements.f k a0) (laws_fjElements.f (k + 1) a0) := by
 intro a0 k
 obtain ⟨ih0, ih1, ih2, ih3⟩ := laws_fjElements.mono_l k
 unfold laws_fjElements.f
 repeat' first
   | (with_reducible exact ih0 _ _)
   | (with_reducible exact ih1 _)
   | (with_reducible exact ih2 _ _)
   | (with_reducible exact ih3 _ _)
   | (with_reducible exact LeO.refl _)
   | (with_reducible exact LeO.none _)
   | (with_reducible refine LeO.ite ?_ ?_)
   | (with_reducible refine LeO.bind ?_ (fun _ => ?_))
   | exact ih0 _ _
   | exact ih1 _
   | exact ih2 _ _
   | exact ih3 _ _
   | exact LeO.none _
   | refine LeO.ite ?_ ?_
   | refine LeO.bind ?_ (fun _ => ?_)
set_option maxHeartbeats 8000000 in
set_option maxRecDepth 100000 in
theorem laws_fjElements.calls (k : Nat) (a0 : ByteArray) (r1 : ByteArray) (r2 : Bool) (w : World) (hG : GLErr w) (h : laws_fjElements.f k a0 = some (r1, r2)) :
  Calls Tryd.prog 16 #[.string a0] w fun e w' => e = .returned (.tuple #[.string r1, .bool r2]) ∧ Below w.heap.size w w' := by
 have HGL := Aside0.mk hG
 clear hG
 have HB := Aside0.mk (Below.refl w.heap.size w)
 have H : ((impl_FjSkip.f a0).bind fun t101 => (if t101.toList = ([] : List UInt8) then (laws_fjElements.j0 k t101 false) else (if 0 < (t101.size : Int) then (laws_fjElements.j0 k t101 ((bt t101 0) == 93)) else (none)))) = some (r1, r2) := h
 clear h
 replace H := Option.bind_eq_some_iff.mp H
 obtain ⟨t101, A20, H⟩ := H
 replace H : (if t101.toList = ([] : List UInt8) then (laws_fjElements.j0 k t101 false) else (if 0 < (t101.size : Int) then (laws_fjElements.j0 k t101 ((bt t101 0) == 93)) else (none))) = some (r1, r2) := H
 have A2 := Aside0.mk A20
 clear A20
 have HC3 := Aside0.mk H
 clear H
 go_enter Tryd.func16, Tryd.ntmps16
 go_upto_region 2 with (first | ((with_reducible refine gate_callee (f := 30) rfl ?_); refine goesL_ (some 7) rfl rfl Tryd.func30 (by kernel_rfl) rfl #[.string a0] rfl (by (try simp only [List.map_toArray, List.map_cons, List.map_nil]); first | done | rfl | (simp only [List.length_drop, List.length_take]; rfl)) ?_; (with_reducible refine (impl_FjSkip.calls a0 t101 _ A2.out).mono ?_); rintro e w4 ⟨rfl, hb⟩; refine ⟨_, rfl, ?_⟩; have n0_ := Aside0.mk (below_step (by repeat (first | (with_reducible first | exact HB.out | apply below_alloc | apply pw_below_drewN | apply below_drew1) | exact HB.out)) hb); clear HB; have HB := n0_; clear n0_; (try clear hb); (try clear hb2); (try clear hk); (try clear hi)))
 (try simp only [Act.put, List.setIfInBounds_toArray, List.set_cons_zero, List.set_cons_succ])
 go_cut [14] (fun v14 wc => ∃ (kq : Nat) (x14_2 : Bool), v14 = .bool x14_2 ∧ Aside0 (laws_fjElements.j0 kq t101 x14_2 = some (r1, r2)) ∧ Aside0 (kq ≤ k) ∧ Aside0 (Below w.heap.size w wc))
 case first =>
  have H := HC3.out
  clear HC3
  by_cases c5 : t101.toList = ([] : List UInt8)
  ·
   rw [if_pos c5] at H
   have c5b0 : (t101.toList == ([] : List UInt8)) = true := beq_iff_eq.mpr c5
   have c5b1 : (t101.toList != ([] : List UInt8)) = false := bne_eq_false_iff_eq.mpr c5
   clear c5
   (first | rw [c5b0] | (simp only [i64_w, i32_w]; rw [c5b0]) | skip)
   have H' := Aside0.mk H
   clear H
   go_wp2
   go_meet
   case rel => exact ⟨_, (false), (by first | rfl | (simp; done) | (simp [*]; done) | (simp; rw [Bool.eq_iff_iff]; simp; done)), H', ⟨by first | omega | exact Nat.le_refl _⟩, ⟨by repeat (first | (with_reducible first | exact HB.out | apply below_alloc | apply pw_below_drewN | apply below_drew1) | exact HB.out)⟩⟩
  ·
   rw [if_neg c5] at H
   have c5b0 : (t101.toList == ([] : List UInt8)) = false := beq_eq_false_iff_ne.mpr c5
   have c5b1 : (t101.toList != ([] : List UInt8)) = true := bne_iff_ne.mpr c5
   (first | rw [c5b0] | (simp only [i64_w, i32_w]; rw [c5b0]) | skip)
   by_cases c6 : 0 < (t101.size : Int)
   ·
    rw [if_pos c6] at H
    have c6b0 : decide (0 < (t101.size : Int)) = true := decide_eq_true c6
    have c6b1 : decide (0 < t101.size) = true := decide_eq_true (by omega)
    clear c6
    have H' := Aside0.mk H
    clear H
    have p7 : 0 ≤ (0 : Int) := (by omega)
    have q7 : 0 < t101.size := (by have : (0 : Int) < (t101.size : Int) := of_decide_eq_true (by first | (with_reducible assumption) | assumption); omega)
    have hx7 : ∀ h : 0 < t101.size, ((t101[0]'h).toNat : Int) = bt t101 0 := bt_at t101 0
    clear p7
    have qi7 : (0 < (t101.size : Int)) = True := eq_true (of_decide_eq_true (by first | (with_reducible assumption) | assumption))
    replace q7 := eq_true q7
    go_wp2
    go_meet
    case rel => exact ⟨_, (((bt t101 0) == 93)), (by first | rfl | (simp; done) | (simp [*]; done) | (simp; rw [Bool.eq_iff_iff]; simp; done)), H', ⟨by first | omega | exact Nat.le_refl _⟩, ⟨by repeat (first | (with_reducible first | exact HB.out | apply below_alloc | apply pw_below_drewN | apply below_drew1) | exact HB.out)⟩⟩
   ·
    rw [if_neg c6] at H
    exact absurd H (by simp)
 case rest =>
  clear HC3
  (try clear c1); (try clear p2); (try clear c3); (try clear c5); (try clear c5b0); (try clear c5b1); (try clear c6); (try clear c6b0); (try clear c6b1); (try clear p7); (try clear q7); (try clear hx7); (try clear qi7); (try clear p7); (try clear q7)
  obtain ⟨kq, x14_2, rfl, HA, HJ2, HB⟩ := hcut
  cases kq with
  | zero => exact absurd HA.out (by simp [laws_fjElements.j0])
  | succ kj2 =>
   have H := HA.out
   clear HA
   simp only [laws_fjElements.j0] at H
   by_cases c8 : x14_2 = true
   ·
    subst c8
    have H1 : (if 1 ≤ (t101.size : Int) then (some (t101.extract 1 t101.size, true)) else (none)) = some (r1, r2) := by rw [if_pos rfl] at H; exact H
    clear H
    have H := H1
    clear H1
    by_cases c9 : 1 ≤ (t101.size : Int)
    ·
     rw [if_pos c9] at H
     have c9b0 := eq_true c9
     have c9b1 : decide (1 ≤ (t101.size : Int)) = true := decide_eq_true c9
     clear c9
     simp only [Option.some.injEq, Prod.mk.injEq] at H
     obtain ⟨rfl, rfl⟩ := H
     go_wp2
     go_ret2
     exact ⟨by first | rfl | (simp [errW_none, errW_some] <;> rfl) | (simp [*, errW_none, errW_some] <;> rfl), by repeat (first | (with_reducible first | exact HB.out | apply below_alloc | apply pw_below_drewN | apply below_drew1) | exact HB.out)⟩
    ·
     rw [if_neg c9] at H
     exact absurd H (by simp)
   ·
    replace c8 := Bool.eq_false_iff.mpr c8
    subst c8
    have H1 : (laws_fjElements.l0 kj2 t101) = some (r1, r2) := by rw [if_neg (show ¬ (false = true) by decide)] at H; exact H
    clear H
    have H := H1
    clear H1
    have H' := Aside0.mk H
    clear H
    go_wp2
    try simp only [Act.put, List.setIfInBounds_toArray, List.set_cons_succ, List.set_cons_zero]
    go_loopg [0] kj2 (fun kq v0 w' => ∃ (x0_2 : ByteArray), v0 = .string x0_2 ∧ Aside0 (laws_fjElements.l0 kq x0_2 = some (r1, r2)) ∧ Aside0 (kq ≤ kj2) ∧ Aside0 (Below w.heap.size w w'))
    case atStart => exact ⟨(t101), (by first | rfl | (simp; done) | (simp [*]; done) | (simp; rw [Bool.eq_iff_iff]; simp; done)), H', ⟨Nat.le_refl _⟩, ⟨by repeat (first | (with_reducible first | exact HB.out | apply below_alloc | apply pw_below_drewN | apply below_drew1) | exact HB.out)⟩⟩
    case round =>
     clear H'
     (try clear c1); (try clear p2); (try clear c3); (try clear c5); (try clear c5b0); (try clear c5b1); (try clear c6); (try clear c6b0); (try clear c6b1); (try clear p7); (try clear q7); (try clear hx7); (try clear qi7); (try clear c8); (try clear c9); (try clear c9b0); (try clear c9b1); (try clear p2); (try clear p7); (try clear q7)
     obtain ⟨x0_2, rfl, HA, HK2, HB⟩ := hrel
     cases gk with
     | zero => exact absurd HA.out (by simp [laws_fjElements.l0])
     | succ k2 =>
      have H := HA.out
      clear HA
      simp only [laws_fjElements.l0] at H
      replace H := Option.bind_eq_some_iff.mp H
      obtain ⟨t102, A100, H⟩ := H
      replace H : ((impl_FjCheckValue.f t102).bind fun bt103 => (if bt103.2 = true then (laws_fjElements.j2 k2 bt103.1 (decide ((bt103.1.size : Int) ≥ (x0_2.size : Int)))) else (laws_fjElements.j2 k2 bt103.1 true))) = some (r1, r2) := H
      have A10 := Aside0.mk A100
      clear A100
      replace H := Option.bind_eq_some_iff.mp H
      obtain ⟨⟨t103, t104⟩, A110, H⟩ := H
      replace H : (if t104 = true then (laws_fjElements.j2 k2 t103 (decide ((t103.size : Int) ≥ (x0_2.size : Int)))) else (laws_fjElements.j2 k2 t103 true)) = some (r1, r2) := H
      have A11 := Aside0.mk A110
      clear A110
      have HC12 := Aside0.mk H
      clear H
      go_upto_region 5 with (first | ((with_reducible refine gate_callee (f := 30) rfl ?_); refine goesL_ (some 19) rfl rfl Tryd.func30 (by kernel_rfl) rfl #[.string x0_2] rfl (by (try simp only [List.map_toArray, List.map_cons, List.map_nil]); first | done | rfl | (simp only [List.length_drop, List.length_take]; rfl)) ?_; (with_reducible refine (impl_FjSkip.calls x0_2 t102 _ A10.out).mono ?_); rintro e w13 ⟨rfl, hb⟩; refine ⟨_, rfl, ?_⟩; have n0_ := Aside0.mk (below_step (by repeat (first | (with_reducible first | exact HB.out | apply below_alloc | apply pw_below_drewN | apply below_drew1) | exact HB.out)) hb); clear HB; have HB := n0_; clear n0_; (try clear hb); (try clear hb2); (try clear hk); (try clear hi)) | ((with_reducible refine gate_callee (f := 31) rfl ?_); refine goesL_ (some 20) rfl rfl Tryd.func31 (by kernel_rfl) rfl #[.string t102] rfl (by (try simp only [List.map_toArray, List.map_cons, List.map_nil]); first | done | rfl | (simp only [List.length_drop, List.length_take]; rfl)) ?_; (with_reducible refine (impl_FjCheckValue.calls t102 t103 t104 _ ?side1 A11.out).mono ?_); (case side1 => exact GLErr.keep HGL.out (by repeat (first | (with_reducible first | exact HB.out | apply below_alloc | apply pw_below_drewN | apply below_drew1) | exact HB.out))); rintro e w14 ⟨rfl, hb⟩; refine ⟨_, rfl, ?_⟩; have n0_ := Aside0.mk (below_step (by repeat (first | (with_reducible first | exact HB.out | apply below_alloc | apply pw_below_drewN | apply below_drew1) | exact HB.out)) hb); clear HB; have HB := n0_; clear n0_; (try clear hb); (try clear hb2); (try clear hk); (try clear hi)))
      (try simp only [Act.put, List.setIfInBounds_toArray, List.set_cons_zero, List.set_cons_succ])
      go_cut [31] (fun v31 wc => ∃ (kq : Nat) (x31_11 : Bool), v31 = .bool x31_11 ∧ Aside0 (laws_fjElements.j2 kq t103 x31_11 = some (r1, r2)) ∧ Aside0 (kq ≤ k2) ∧ Aside0 (Below w.heap.size w wc))
      case first =>
       have H := HC12.out
       clear HC12
       by_cases c15 : t104 = true
       ·
        subst c15
        have H1 : (laws_fjElements.j2 k2 t103 (decide ((t103.size : Int) ≥ (x0_2.size : Int)))) = some (r1, r2) := by rw [if_pos rfl] at H; exact H
        clear H
        have H := H1
        clear H1
        have H' := Aside0.mk H
        clear H
        go_wp2
        go_meet
        case rel => exact ⟨_, (decide ((t103.size : Int) ≥ (x0_2.size : Int))), (by first | rfl | (simp; done) | (simp [*]; done) | (simp; rw [Bool.eq_iff_iff]; simp; done)), H', ⟨by have := HJ2.out; have := HK2.out; first | omega | exact Nat.le_refl _⟩, ⟨by repeat (first | (with_reducible first | exact HB.out | apply below_alloc | apply pw_below_drewN | apply below_drew1) | exact HB.out)⟩⟩
       ·
        replace c15 := Bool.eq_false_iff.mpr c15
        subst c15
        have H1 : (laws_fjElements.j2 k2 t103 true) = some (r1, r2) := by rw [if_neg (show ¬ (false = true) by decide)] at H; exact H
        clear H
        have H := H1
        clear H1
        have H' := Aside0.mk H
        clear H
        go_wp2
        go_meet
        case rel => exact ⟨_, (true), (by first | rfl | (simp; done) | (simp [*]; done) | (simp; rw [Bool.eq_iff_iff]; simp; done)), H', ⟨by have := HJ2.out; have := HK2.out; first | omega | exact Nat.le_refl _⟩, ⟨by repeat (first | (with_reducible first | exact HB.out | apply below_alloc | apply pw_below_drewN | apply below_drew1) | exact HB.out)⟩⟩
      case rest =>
       clear HC12
       (try clear c1); (try clear p2); (try clear c3); (try clear c5); (try clear c5b0); (try clear c5b1); (try clear c6); (try clear c6b0); (try clear c6b1); (try clear p7); (try clear q7); (try clear hx7); (try clear qi7); (try clear c8); (try clear c9); (try clear c9b0); (try clear c9b1); (try clear c15); (try clear p2); (try clear p7); (try clear q7)
       obtain ⟨kq, x31_11, rfl, HA, HJ11, HB⟩ := hcut
       cases kq with
       | zero => exact absurd HA.out (by simp [laws_fjElements.j2])
       | succ kj11 =>
        have H := HA.out
        clear HA
        simp only [laws_fjElements.j2] at H
        by_cases c16 : x31_11 = true
        ·
         subst c16
         have H1 : (some ((⟨#[]⟩ : ByteArray), false)) = some (r1, r2) := by rw [if_pos rfl] at H; exact H
         clear H
         have H := H1
         clear H1
         simp only [Option.some.injEq, Prod.mk.injEq] at H
         obtain ⟨rfl, rfl⟩ := H
         go_wp2
         go_ret2
         exact ⟨by first | rfl | (simp [errW_none, errW_some] <;> rfl) | (simp [*, errW_none, errW_some] <;> rfl), by repeat (first | (with_reducible first | exact HB.out | apply below_alloc | apply pw_below_drewN | apply below_drew1) | exact HB.out)⟩
        ·
         replace c16 := Bool.eq_false_iff.mpr c16
         subst c16
         have H1 : ((impl_FjSkip.f t103).bind fun t105 => (if t105.toList = ([] : List UInt8) then (laws_fjElements.j3 kj11 t105 true) else (if 0 < (t105.size : Int) then (if (bt t105 0) = 44 then (laws_fjElements.j3 kj11 t105 false) else (laws_fjElements.j3 kj11 t105 ((bt t105 0) != 93))) else (none)))) = some (r1, r2) := by rw [if_neg (show ¬ (false = true) by decide)] at H; exact H
         clear H
         have H := H1
         clear H1
         replace H := Option.bind_eq_some_iff.mp H
         obtain ⟨t105, A170, H⟩ := H
         replace H : (if t105.toList = ([] : List UInt8) then (laws_fjElements.j3 kj11 t105 true) else (if 0 < (t105.size : Int) then (if (bt t105 0) = 44 then (laws_fjElements.j3 kj11 t105 false) else (laws_fjElements.j3 kj11 t105 ((bt t105 0) != 93))) else (none))) = some (r1, r2) := H
         have A17 := Aside0.mk A170
         clear A170
         have HC18 := Aside0.mk H
         clear H
         go_upto_region 8 with (first | ((with_reducible refine gate_callee (f := 30) rfl ?_); refine goesL_ (some 33) rfl rfl Tryd.func30 (by kernel_rfl) rfl #[.string t103] rfl (by (try simp only [List.map_toArray, List.map_cons, List.map_nil]); first | done | rfl | (simp only [List.length_drop, List.length_take]; rfl)) ?_; (with_reducible refine (impl_FjSkip.calls t103 t105 _ A17.out).mono ?_); rintro e w19 ⟨rfl, hb⟩; refine ⟨_, rfl, ?_⟩; have n0_ := Aside0.mk (below_step (by repeat (first | (with_reducible first | exact HB.out | apply below_alloc | apply pw_below_drewN | apply below_drew1) | exact HB.out)) hb); clear HB; have HB := n0_; clear n0_; (try clear hb); (try clear hb2); (try clear hk); (try clear hi)))
         (try simp only [Act.put, List.setIfInBounds_toArray, List.set_cons_zero, List.set_cons_succ])
         go_cut [45] (fun v45 wc => ∃ (kq : Nat) (x45_17 : Bool), v45 = .bool x45_17 ∧ Aside0 (laws_fjElements.j3 kq t105 x45_17 = some (r1, r2)) ∧ Aside0 (kq ≤ kj11) ∧ Aside0 (Below w.heap.size w wc))
         case first =>
          have H := HC18.out
          clear HC18
          by_cases c20 : t105.toList = ([] : List UInt8)
          ·
           rw [if_pos c20] at H
           have c20b0 : (t105.toList == ([] : List UInt8)) = true := beq_iff_eq.mpr c20
           have c20b1 : (t105.toList != ([] : List UInt8)) = false := bne_eq_false_iff_eq.mpr c20
           clear c20
           (first | rw [c20b0] | (simp only [i64_w, i32_w]; rw [c20b0]) | skip)
           have H' := Aside0.mk H
           clear H
           go_wp2
           go_meet
           case rel => exact ⟨_, (true), (by first | rfl | (simp; done) | (simp [*]; done) | (simp; rw [Bool.eq_iff_iff]; simp; done)), H', ⟨by have := HJ2.out; have := HK2.out; have := HJ11.out; first | omega | exact Nat.le_refl _⟩, ⟨by repeat (first | (with_reducible first | exact HB.out | apply below_alloc | apply pw_below_drewN | apply below_drew1) | exact HB.out)⟩⟩
          ·
           rw [if_neg c20] at H
           have c20b0 : (t105.toList == ([] : List UInt8)) = false := beq_eq_false_iff_ne.mpr c20
           have c20b1 : (t105.toList != ([] : List UInt8)) = true := bne_iff_ne.mpr c20
           (first | rw [c20b0] | (simp only [i64_w, i32_w]; rw [c20b0]) | skip)
           by_cases c21 : 0 < (t105.size : Int)
           ·
            rw [if_pos c21] at H
            have c21b0 : decide (0 < (t105.size : Int)) = true := decide_eq_true c21
            have c21b1 : decide (0 < t105.size) = true := decide_eq_true (by omega)
            clear c21
            by_cases c23 : (bt t105 0) = 44
            ·
             rw [if_pos c23] at H
             have c23b0 : ((bt t105 0) == 44) = true := beq_iff_eq.mpr c23
             have c23b1 : ((bt t105 0) != 44) = false := bne_eq_false_iff_eq.mpr c23
             clear c23
             have H' := Aside0.mk H
             clear H
             have p22 : 0 ≤ (0 : Int) := (by omega)
             have q22 : 0 < t105.size := (by have : (0 : Int) < (t105.size : Int) := of_decide_eq_true (by first | (with_reducible assumption) | assumption); omega)
             have hx22 : ∀ h : 0 < t105.size, ((t105[0]'h).toNat : Int) = bt t105 0 := bt_at t105 0
             clear p22
             have qi22 : (0 < (t105.size : Int)) = True := eq_true (of_decide_eq_true (by first | (with_reducible assumption) | assumption))
             replace q22 := eq_true q22
             go_wp2
             go_meet
             case rel => exact ⟨_, (false), (by first | rfl | (simp; done) | (simp [*]; done) | (simp; rw [Bool.eq_iff_iff]; simp; done)), H', ⟨by have := HJ2.out; have := HK2.out; have := HJ11.out; first | omega | exact Nat.le_refl _⟩, ⟨by repeat (first | (with_reducible first | exact HB.out | apply below_alloc | apply pw_below_drewN | apply below_drew1) | exact HB.out)⟩⟩
            ·
             rw [if_neg c23] at H
             have c23b0 : ((bt t105 0) == 44) = false := beq_eq_false_iff_ne.mpr c23
             have c23b1 : ((bt t105 0) != 44) = true := bne_iff_ne.mpr c23
             have H' := Aside0.mk H
             clear H
             have p22 : 0 ≤ (0 : Int) := (by omega)
             have q22 : 0 < t105.size := (by have : (0 : Int) < (t105.size : Int) := of_decide_eq_true (by first | (with_reducible assumption) | assumption); omega)
             have hx22 : ∀ h : 0 < t105.size, ((t105[0]'h).toNat : Int) = bt t105 0 := bt_at t105 0
             clear p22
             have qi22 : (0 < (t105.size : Int)) = True := eq_true (of_decide_eq_true (by first | (with_reducible assumption) | assumption))
             replace q22 := eq_true q22
             have p24 : 0 ≤ (0 : Int) := (by omega)
             have q24 : 0 < t105.size := (by have : (0 : Int) < (t105.size : Int) := of_decide_eq_true (by first | (with_reducible assumption) | assumption); omega)
             have hx24 : ∀ h : 0 < t105.size, ((t105[0]'h).toNat : Int) = bt t105 0 := bt_at t105 0
             clear p24
             have qi24 : (0 < (t105.size : Int)) = True := eq_true (of_decide_eq_true (by first | (with_reducible assumption) | assumption))
             replace q24 := eq_true q24
             go_wp2
             go_meet
             case rel => exact ⟨_, (((bt t105 0) != 93)), (by first | rfl | (simp; done) | (simp [*]; done) | (simp; rw [Bool.eq_iff_iff]; simp; done)), H', ⟨by have := HJ2.out; have := HK2.out; have := HJ11.out; first | omega | exact Nat.le_refl _⟩, ⟨by repeat (first | (with_reducible first | exact HB.out | apply below_alloc | apply pw_below_drewN | apply below_drew1) | exact HB.out)⟩⟩
           ·
            rw [if_neg c21] at H
            exact absurd H (by simp)
         case rest =>
          clear HC18
          (try clear c1); (try clear c2); (try clear p2); (try clear q2); (try clear hx2); (try clear qi2); (try clear c3); (try clear c5); (try clear c5b0); (try clear c5b1); (try clear c6); (try clear c6b0); (try clear c6b1); (try clear p7); (try clear q7); (try clear hx7); (try clear qi7); (try clear c8); (try clear c9); (try clear c9b0); (try clear c9b1); (try clear c15); (try clear c16); (try clear c20); (try clear c20b0); (try clear c20b1); (try clear c21); (try clear c21b0); (try clear c21b1); (try clear p22); (try clear q22); (try clear hx22); (try clear qi22); (try clear c23); (try clear c23b0); (try clear c23b1); (try clear p24); (try clear q24); (try clear hx24); (try clear qi24); (try clear p2); (try clear p22); (try clear p24); (try clear p7); (try clear q22); (try clear q24); (try clear q7)
          obtain ⟨kq, x45_17, rfl, HA, HJ17, HB⟩ := hcut
          cases kq with
          | zero => exact absurd HA.out (by simp [laws_fjElements.j3])
          | succ kj17 =>
           have H := HA.out
           clear HA
           simp only [laws_fjElements.j3] at H
           by_cases c25 : x45_17 = true
           ·
            subst c25
            have H1 : (some ((⟨#[]⟩ : ByteArray), false)) = some (r1, r2) := by rw [if_pos rfl] at H; exact H
            clear H
            have H := H1
            clear H1
            simp only [Option.some.injEq, Prod.mk.injEq] at H
            obtain ⟨rfl, rfl⟩ := H
            go_wp2
            go_ret2
            exact ⟨by first | rfl | (simp [errW_none, errW_some] <;> rfl) | (simp [*, errW_none, errW_some] <;> rfl), by repeat (first | (with_reducible first | exact HB.out | apply below_alloc | apply pw_below_drewN | apply below_drew1) | exact HB.out)⟩
           ·
            replace c25 := Bool.eq_false_iff.mpr c25
            subst c25
            have H1 : (if 0 < (t105.size : Int) then (if (bt t105 0) = 93 then (if 1 ≤ (t105.size : Int) then (some (t105.extract 1 t105.size, true)) else (none)) else (if 1 ≤ (t105.size : Int) then (laws_fjElements.l0 kj17 (t105.extract 1 t105.size)) else (none))) else (none)) = some (r1, r2) := by rw [if_neg (show ¬ (false = true) by decide)] at H; exact H
            clear H
            have H := H1
            clear H1
            by_cases c26 : 0 < (t105.size : Int)
            ·
             rw [if_pos c26] at H
             have c26b0 : decide (0 < (t105.size : Int)) = true := decide_eq_true c26
             have c26b1 : decide (0 < t105.size) = true := decide_eq_true (by omega)
             clear c26
             by_cases c28 : (bt t105 0) = 93
             ·
              rw [if_pos c28] at H
              have c28b0 : ((bt t105 0) == 93) = true := beq_iff_eq.mpr c28
              have c28b1 : ((bt t105 0) != 93) = false := bne_eq_false_iff_eq.mpr c28
              clear c28
              by_cases c29 : 1 ≤ (t105.size : Int)
              ·
               rw [if_pos c29] at H
               have c29b0 := eq_true c29
               have c29b1 : decide (1 ≤ (t105.size : Int)) = true := decide_eq_true c29
               clear c29
               simp only [Option.some.injEq, Prod.mk.injEq] at H
               obtain ⟨rfl, rfl⟩ := H
               have p27 : 0 ≤ (0 : Int) := (by omega)
               have q27 : 0 < t105.size := (by have : (0 : Int) < (t105.size : Int) := of_decide_eq_true (by first | (with_reducible assumption) | assumption); omega)
               have hx27 : ∀ h : 0 < t105.size, ((t105[0]'h).toNat : Int) = bt t105 0 := bt_at t105 0
               clear p27
               have qi27 : (0 < (t105.size : Int)) = True := eq_true (of_decide_eq_true (by first | (with_reducible assumption) | assumption))
               replace q27 := eq_true q27
               go_wp2
               go_ret2
               exact ⟨by first | rfl | (simp [errW_none, errW_some] <;> rfl) | (simp [*, errW_none, errW_some] <;> rfl), by repeat (first | (with_reducible first | exact HB.out | apply below_alloc | apply pw_below_drewN | apply below_drew1) | exact HB.out)⟩
              ·
               rw [if_neg c29] at H
               exact absurd H (by simp)
             ·
              rw [if_neg c28] at H
              have c28b0 : ((bt t105 0) == 93) = false := beq_eq_false_iff_ne.mpr c28
              have c28b1 : ((bt t105 0) != 93) = true := bne_iff_ne.mpr c28
              by_cases c30 : 1 ≤ (t105.size : Int)
              ·
               rw [if_pos c30] at H
               have c30b0 := eq_true c30
               have c30b1 : decide (1 ≤ (t105.size : Int)) = true := decide_eq_true c30
               clear c30
               have H' := Aside0.mk H
               clear H
               have p27 : 0 ≤ (0 : Int) := (by omega)
               have q27 : 0 < t105.size := (by have : (0 : Int) < (t105.size : Int) := of_decide_eq_true (by first | (with_reducible assumption) | assumption); omega)
               have hx27 : ∀ h : 0 < t105.size, ((t105[0]'h).toNat : Int) = bt t105 0 := bt_at t105 0
               clear p27
               have qi27 : (0 < (t105.size : Int)) = True := eq_true (of_decide_eq_true (by first | (with_reducible assumption) | assumption))
               replace q27 := eq_true q27
               go_wp2
               go_roundg kj17
               case measure => have := HJ2.out; have := HK2.out; have := HJ11.out; have := HJ17.out; omega
               case rel => exact ⟨(t105.extract 1 t105.size), (by first | rfl | (simp; done) | (simp [*]; done) | (simp; rw [Bool.eq_iff_iff]; simp; done)), H', ⟨by have := HJ2.out; have := HK2.out; have := HJ11.out; have := HJ17.out; omega⟩, ⟨by repeat (first | (with_reducible first | exact HB.out | apply below_alloc | apply pw_below_drewN | apply below_drew1) | exact HB.out)⟩⟩
              ·
               rw [if_neg c30] at H
               exact absurd H (by simp)
            ·
             rw [if_neg c26] at H
             exact absurd H (by simp)

/-! ### laws_FnFjCheckElements: function 6 -/
def laws_FnFjCheckElements.f (k : Nat) (a0 : ByteArray) : Option (Bool) := if (a0.size : Int) > 2147483647 then (some true) else (if (a0.size : Int) > 4000 then (some true) else ((laws_fjElements.f k a0).bind fun bt106 => ((impl_FjCheckArray.f a0).bind fun bt108 => ((impl_FjCheckArray.f (⟨#[49, 44, 50, 93]⟩ : ByteArray)).bind fun bt110 => (if bt110.2 = true then (if (bt108.2 == bt106.2) = true then (if bt106.2 = true then (some (bt108.1.toList == bt106.1.toList)) else (some true)) else (some false)) else (some false))))))
theorem laws_FnFjCheckElements.mono : ∀ a0 k, LeO (laws_FnFjCheckElements.f k a0) (laws_FnFjCheckElements.f (k + 1) a0) := by
 intro a0 k
 unfold laws_FnFjCheckElements.f
 repeat' first
   | (with_reducible exact laws_fjElements.mono _ _)
   | (with_reducible exact LeO.refl _)
   | (with_reducible exact LeO.none _)
   | (with_reducible refine LeO.ite ?_ ?_)
   | (with_reducible refine LeO.bind ?_ (fun _ => ?_))
   | exact laws_fjElements.mono _ _
   | exact LeO.none _
   | refine LeO.ite ?_ ?_
   | refine LeO.bind ?_ (fun _ => ?_)
set_option maxHeartbeats 8000000 in
set_option maxRecDepth 100000 in
theorem laws_FnFjCheckElements.calls (k : Nat) (a0 : ByteArray) (r : Bool) (w : World) (hG : GLErr w) (h : laws_FnFjCheckElements.f k a0 = some r) :
  Calls Tryd.prog 6 #[.string a0] w fun e w' => e = .returned (.bool r) ∧ Below w.heap.size w w' := by
 have HGL := Aside0.mk hG
 clear hG
 have HB := Aside0.mk (Below.refl w.heap.size w)
 have H : (if (a0.size : Int) > 2147483647 then (some true) else (if (a0.size : Int) > 4000 then (some true) else ((laws_fjElements.f k a0).bind fun bt106 => ((impl_FjCheckArray.f a0).bind fun bt108 => ((impl_FjCheckArray.f (⟨#[49, 44, 50, 93]⟩ : ByteArray)).bind fun bt110 => (if bt110.2 = true then (if (bt108.2 == bt106.2) = true then (if bt106.2 = true then (some (bt108.1.toList == bt106.1.toList)) else (some true)) else (some false)) else (some false))))))) = some r := h
 clear h
 by_cases c2 : (a0.size : Int) > 2147483647
 ·
  rw [if_pos c2] at H
  have c2b0 : decide (2147483647 < (a0.size : Int)) = true := decide_eq_true c2
  have c2b1 : decide (2147483647 < a0.size) = true := decide_eq_true (by omega)
  clear c2
  obtain rfl := Option.some.inj H
  go_enter Tryd.func6, Tryd.ntmps6
  go_wp2
  go_ret
  exact ⟨by first | rfl | (simp [errW_none, errW_some] <;> rfl) | (simp [*, errW_none, errW_some] <;> rfl), by repeat (first | (with_reducible first | exact HB.out | apply below_alloc | apply pw_below_drewN | apply below_drew1) | exact HB.out)⟩
 ·
  rw [if_neg c2] at H
  have c2b0 : decide (2147483647 < (a0.size : Int)) = false := decide_eq_false c2
  have c2b1 : decide (2147483647 < a0.size) = false := decide_eq_false (by omega)
  clear c2
  by_cases c3 : (a0.size : Int) > 4000
  ·
   rw [if_pos c3] at H
   have c3b0 : decide (4000 < (a0.size : Int)) = true := decide_eq_true c3
   have c3b1 : decide (4000 < a0.size) = true := decide_eq_true (by omega)
   clear c3
   obtain rfl := Option.some.inj H
   go_enter Tryd.func6, Tryd.ntmps6
   go_wp2
   go_ret
   exact ⟨by first | rfl | (simp [errW_none, errW_some] <;> rfl) | (simp [*, errW_none, errW_some] <;> rfl), by repeat (first | (with_reducible first | exact HB.out | apply below_alloc | apply pw_below_drewN | apply below_drew1) | exact HB.out)⟩
  ·
   rw [if_neg c3] at H
   have c3b0 : decide (4000 < (a0.size : Int)) = false := decide_eq_false c3
   have c3b1 : decide (4000 < a0.size) = false := decide_eq_false (by omega)
   clear c3
   replace H := Option.bind_eq_some_iff.mp H
   obtain ⟨⟨t106, t107⟩, A40, H⟩ := H
   replace H : ((impl_FjCheckArray.f a0).bind fun bt108 => ((impl_FjCheckArray.f (⟨#[49, 44, 50, 93]⟩ : ByteArray)).bind fun bt110 => (if bt110.2 = true then (if (bt108.2 == t107) = true then (if t107 = true then (some (bt108.1.toList == t106.toList)) else (some true)) else (some false)) else (some false)))) = some r := H
   have A4 := Aside0.mk A40
   clear A40
   replace H := Option.bind_eq_some_iff.mp H
   obtain ⟨⟨t108, t109⟩, A50, H⟩ := H
   replace H : ((impl_FjCheckArray.f (⟨#[49, 44, 50, 93]⟩ : ByteArray)).bind fun bt110 => (if bt110.2 = true then (if (t109 == t107) = true then (if t107 = true then (some (t108.toList == t106.toList)) else (some true)) else (some false)) else (some false))) = some r := H
   have A5 := Aside0.mk A50
   clear A50
   replace H := Option.bind_eq_some_iff.mp H
   obtain ⟨⟨t110, t111⟩, A60, H⟩ := H
   replace H : (if t111 = true then (if (t109 == t107) = true then (if t107 = true then (some (t108.toList == t106.toList)) else (some true)) else (some false)) else (some false)) = some r := H
   have A6 := Aside0.mk A60
   clear A60
   by_cases c7 : t111 = true
   ·
    subst c7
    have H1 : (if (t109 == t107) = true then (if t107 = true then (some (t108.toList == t106.toList)) else (some true)) else (some false)) = some r := by rw [if_pos rfl] at H; exact H
    clear H
    have H := H1
    clear H1
    by_cases c8 : (t109 == t107) = true
    ·
     rw [if_pos c8] at H
     have c8b0 : (t109 == t107) = true := c8
     (try (have c8b1 : decide (t109 = t107) = true := by simpa using c8))
     (try (have c8b2 : (t109 == t107) = true := by simpa using c8))
     clear c8
     by_cases c9 : t107 = true
     ·
      subst c9
      have H1 : (some (t108.toList == t106.toList)) = some r := by rw [if_pos rfl] at H; exact H
      clear H
      have H := H1
      clear H1
      obtain rfl := Option.some.inj H
      go_enter Tryd.func6, Tryd.ntmps6
      go_wp2_with (first | ((with_reducible refine gate_callee (f := 16) rfl ?_); refine goesL_ (some 17) rfl rfl Tryd.func16 (by kernel_rfl) rfl #[.string a0] rfl (by (try simp only [List.map_toArray, List.map_cons, List.map_nil]); first | done | rfl | (simp only [List.length_drop, List.length_take]; rfl)) ?_; (with_reducible refine (laws_fjElements.calls k a0 t106 true _ ?side1 A4.out).mono ?_); (case side1 => exact GLErr.keep HGL.out (by repeat (first | (with_reducible first | exact HB.out | apply below_alloc | apply pw_below_drewN | apply below_drew1) | exact HB.out))); rintro e w10 ⟨rfl, hb⟩; refine ⟨_, rfl, ?_⟩; have n0_ := Aside0.mk (below_step (by repeat (first | (with_reducible first | exact HB.out | apply below_alloc | apply pw_below_drewN | apply below_drew1) | exact HB.out)) hb); clear HB; have HB := n0_; clear n0_; (try clear hb); (try clear hb2); (try clear hk); (try clear hi)) | ((with_reducible refine gate_callee (f := 17) rfl ?_); refine goesL_ (some 22) rfl rfl Tryd.func17 (by kernel_rfl) rfl #[.string a0] rfl (by (try simp only [List.map_toArray, List.map_cons, List.map_nil]); first | done | rfl | (simp only [List.length_drop, List.length_take]; rfl)) ?_; (with_reducible refine (impl_FjCheckArray.calls a0 t108 t109 _ ?side1 A5.out).mono ?_); (case side1 => exact GLErr.keep HGL.out (by repeat (first | (with_reducible first | exact HB.out | apply below_alloc | apply pw_below_drewN | apply below_drew1) | exact HB.out))); rintro e w11 ⟨rfl, hb⟩; refine ⟨_, rfl, ?_⟩; have n0_ := Aside0.mk (below_step (by repeat (first | (with_reducible first | exact HB.out | apply below_alloc | apply pw_below_drewN | apply below_drew1) | exact HB.out)) hb); clear HB; have HB := n0_; clear n0_; (try clear hb); (try clear hb2); (try clear hk); (try clear hi)) | ((with_reducible refine gate_callee (f := 17) rfl ?_); refine goesL_ (some 26) rfl rfl Tryd.func17 (by kernel_rfl) rfl #[.string (⟨#[49, 44, 50, 93]⟩ : ByteArray)] rfl (by (try simp only [List.map_toArray, List.map_cons, List.map_nil]); first | done | rfl | (simp only [List.length_drop, List.length_take]; rfl)) ?_; (with_reducible refine (impl_FjCheckArray.calls (⟨#[49, 44, 50, 93]⟩ : ByteArray) t110 true _ ?side1 A6.out).mono ?_); (case side1 => exact GLErr.keep HGL.out (by repeat (first | (with_reducible first | exact HB.out | apply below_alloc | apply pw_below_drewN | apply below_drew1) | exact HB.out))); rintro e w12 ⟨rfl, hb⟩; refine ⟨_, rfl, ?_⟩; have n0_ := Aside0.mk (below_step (by repeat (first | (with_reducible first | exact HB.out | apply below_alloc | apply pw_below_drewN | apply below_drew1) | exact HB.out)) hb); clear HB; have HB := n0_; clear n0_; (try clear hb); (try clear hb2); (try clear hk); (try clear hi)))
      go_ret
      exact ⟨by first | rfl | (simp [errW_none, errW_some] <;> rfl) | (simp [*, errW_none, errW_some] <;> rfl), by repeat (first | (with_reducible first | exact HB.out | apply below_alloc | apply pw_below_drewN | apply below_drew1) | exact HB.out)⟩
     ·
      replace c9 := Bool.eq_false_iff.mpr c9
      subst c9
      have H1 : (some true) = some r := by rw [if_neg (show ¬ (false = true) by decide)] at H; exact H
      clear H
      have H := H1
      clear H1
      obtain rfl := Option.some.inj H
      go_enter Tryd.func6, Tryd.ntmps6
      go_wp2_with (first | ((with_reducible refine gate_callee (f := 16) rfl ?_); refine goesL_ (some 17) rfl rfl Tryd.func16 (by kernel_rfl) rfl #[.string a0] rfl (by (try simp only [List.map_toArray, List.map_cons, List.map_nil]); first | done | rfl | (simp only [List.length_drop, List.length_take]; rfl)) ?_; (with_reducible refine (laws_fjElements.calls k a0 t106 false _ ?side1 A4.out).mono ?_); (case side1 => exact GLErr.keep HGL.out (by repeat (first | (with_reducible first | exact HB.out | apply below_alloc | apply pw_below_drewN | apply below_drew1) | exact HB.out))); rintro e w13 ⟨rfl, hb⟩; refine ⟨_, rfl, ?_⟩; have n0_ := Aside0.mk (below_step (by repeat (first | (with_reducible first | exact HB.out | apply below_alloc | apply pw_below_drewN | apply below_drew1) | exact HB.out)) hb); clear HB; have HB := n0_; clear n0_; (try clear hb); (try clear hb2); (try clear hk); (try clear hi)) | ((with_reducible refine gate_callee (f := 17) rfl ?_); refine goesL_ (some 22) rfl rfl Tryd.func17 (by kernel_rfl) rfl #[.string a0] rfl (by (try simp only [List.map_toArray, List.map_cons, List.map_nil]); first | done | rfl | (simp only [List.length_drop, List.length_take]; rfl)) ?_; (with_reducible refine (impl_FjCheckArray.calls a0 t108 t109 _ ?side1 A5.out).mono ?_); (case side1 => exact GLErr.keep HGL.out (by repeat (first | (with_reducible first | exact HB.out | apply below_alloc | apply pw_below_drewN | apply below_drew1) | exact HB.out))); rintro e w14 ⟨rfl, hb⟩; refine ⟨_, rfl, ?_⟩; have n0_ := Aside0.mk (below_step (by repeat (first | (with_reducible first | exact HB.out | apply below_alloc | apply pw_below_drewN | apply below_drew1) | exact HB.out)) hb); clear HB; have HB := n0_; clear n0_; (try clear hb); (try clear hb2); (try clear hk); (try clear hi)) | ((with_reducible refine gate_callee (f := 17) rfl ?_); refine goesL_ (some 26) rfl rfl Tryd.func17 (by kernel_rfl) rfl #[.string (⟨#[49, 44, 50, 93]⟩ : ByteArray)] rfl (by (try simp only [List.map_toArray, List.map_cons, List.map_nil]); first | done | rfl | (simp only [List.length_drop, List.length_take]; rfl)) ?_; (with_reducible refine (impl_FjCheckArray.calls (⟨#[49, 44, 50, 93]⟩ : ByteArray) t110 true _ ?side1 A6.out).mono ?_); (case side1 => exact GLErr.keep HGL.out (by repeat (first | (with_reducible first | exact HB.out | apply below_alloc | apply pw_below_drewN | apply below_drew1) | exact HB.out))); rintro e w15 ⟨rfl, hb⟩; refine ⟨_, rfl, ?_⟩; have n0_ := Aside0.mk (below_step (by repeat (first | (with_reducible first | exact HB.out | apply below_alloc | apply pw_below_drewN | apply below_drew1) | exact HB.out)) hb); clear HB; have HB := n0_; clear n0_; (try clear hb); (try clear hb2); (try clear hk); (try clear hi)))
      go_ret
      exact ⟨by first | rfl | (simp [errW_none, errW_some] <;> rfl) | (simp [*, errW_none, errW_some] <;> rfl), by repeat (first | (with_reducible first | exact HB.out | apply below_alloc | apply pw_below_drewN | apply below_drew1) | exact HB.out)⟩
    ·
     rw [if_neg c8] at H
     have c8b0 : (t109 == t107) = false := by simpa using c8
     (try (have c8b1 : decide (t109 = t107) = false := by simpa using c8))
     (try (have c8b2 : (t109 == t107) = false := by simpa using c8))
     (try (have c8b3 : ¬ (t109 = t107) := by simpa using c8))
     clear c8
     obtain rfl := Option.some.inj H
     go_enter Tryd.func6, Tryd.ntmps6
     go_wp2_with (first | ((with_reducible refine gate_callee (f := 16) rfl ?_); refine goesL_ (some 17) rfl rfl Tryd.func16 (by kernel_rfl) rfl #[.string a0] rfl (by (try simp only [List.map_toArray, List.map_cons, List.map_nil]); first | done | rfl | (simp only [List.length_drop, List.length_take]; rfl)) ?_; (with_reducible refine (laws_fjElements.calls k a0 t106 t107 _ ?side1 A4.out).mono ?_); (case side1 => exact GLErr.keep HGL.out (by repeat (first | (with_reducible first | exact HB.out | apply below_alloc | apply pw_below_drewN | apply below_drew1) | exact HB.out))); rintro e w16 ⟨rfl, hb⟩; refine ⟨_, rfl, ?_⟩; have n0_ := Aside0.mk (below_step (by repeat (first | (with_reducible first | exact HB.out | apply below_alloc | apply pw_below_drewN | apply below_drew1) | exact HB.out)) hb); clear HB; have HB := n0_; clear n0_; (try clear hb); (try clear hb2); (try clear hk); (try clear hi)) | ((with_reducible refine gate_callee (f := 17) rfl ?_); refine goesL_ (some 22) rfl rfl Tryd.func17 (by kernel_rfl) rfl #[.string a0] rfl (by (try simp only [List.map_toArray, List.map_cons, List.map_nil]); first | done | rfl | (simp only [List.length_drop, List.length_take]; rfl)) ?_; (with_reducible refine (impl_FjCheckArray.calls a0 t108 t109 _ ?side1 A5.out).mono ?_); (case side1 => exact GLErr.keep HGL.out (by repeat (first | (with_reducible first | exact HB.out | apply below_alloc | apply pw_below_drewN | apply below_drew1) | exact HB.out))); rintro e w17 ⟨rfl, hb⟩; refine ⟨_, rfl, ?_⟩; have n0_ := Aside0.mk (below_step (by repeat (first | (with_reducible first | exact HB.out | apply below_alloc | apply pw_below_drewN | apply below_drew1) | exact HB.out)) hb); clear HB; have HB := n0_; clear n0_; (try clear hb); (try clear hb2); (try clear hk); (try clear hi)) | ((with_reducible refine gate_callee (f := 17) rfl ?_); refine goesL_ (some 26) rfl rfl Tryd.func17 (by kernel_rfl) rfl #[.string (⟨#[49, 44, 50, 93]⟩ : ByteArray)] rfl (by (try simp only [List.map_toArray, List.map_cons, List.map_nil]); first | done | rfl | (simp only [List.length_drop, List.length_take]; rfl)) ?_; (with_reducible refine (impl_FjCheckArray.calls (⟨#[49, 44, 50, 93]⟩ : ByteArray) t110 true _ ?side1 A6.out).mono ?_); (case side1 => exact GLErr.keep HGL.out (by repeat (first | (with_reducible first | exact HB.out | apply below_alloc | apply pw_below_drewN | apply below_drew1) | exact HB.out))); rintro e w18 ⟨rfl, hb⟩; refine ⟨_, rfl, ?_⟩; have n0_ := Aside0.mk (below_step (by repeat (first | (with_reducible first | exact HB.out | apply below_alloc | apply pw_below_drewN | apply below_drew1) | exact HB.out)) hb); clear HB; have HB := n0_; clear n0_; (try clear hb); (try clear hb2); (try clear hk); (try clear hi)))
     go_ret
     exact ⟨by first | rfl | (simp [errW_none, errW_some] <;> rfl) | (simp [*, errW_none, errW_some] <;> rfl), by repeat (first | (with_reducible first | exact HB.out | apply below_alloc | apply pw_below_drewN | apply below_drew1) | exact HB.out)⟩
   ·
    replace c7 := Bool.eq_false_iff.mpr c7
    subst c7
    have H1 : (some false) = some r := by rw [if_neg (show ¬ (false = true) by decide)] at H; exact H
    clear H
    have H := H1
    clear H1
    obtain rfl := Option.some.inj H
    go_enter Tryd.func6, Tryd.ntmps6
    go_wp2_with (first | ((with_reducible refine gate_callee (f := 16) rfl ?_); refine goesL_ (some 17) rfl rfl Tryd.func16 (by kernel_rfl) rfl #[.string a0] rfl (by (try simp only [List.map_toArray, List.map_cons, List.map_nil]); first | done | rfl | (simp only [List.length_drop, List.length_take]; rfl)) ?_; (with_reducible refine (laws_fjElements.calls k a0 t106 t107 _ ?side1 A4.out).mono ?_); (case side1 => exact GLErr.keep HGL.out (by repeat (first | (with_reducible first | exact HB.out | apply below_alloc | apply pw_below_drewN | apply below_drew1) | exact HB.out))); rintro e w19 ⟨rfl, hb⟩; refine ⟨_, rfl, ?_⟩; have n0_ := Aside0.mk (below_step (by repeat (first | (with_reducible first | exact HB.out | apply below_alloc | apply pw_below_drewN | apply below_drew1) | exact HB.out)) hb); clear HB; have HB := n0_; clear n0_; (try clear hb); (try clear hb2); (try clear hk); (try clear hi)) | ((with_reducible refine gate_callee (f := 17) rfl ?_); refine goesL_ (some 22) rfl rfl Tryd.func17 (by kernel_rfl) rfl #[.string a0] rfl (by (try simp only [List.map_toArray, List.map_cons, List.map_nil]); first | done | rfl | (simp only [List.length_drop, List.length_take]; rfl)) ?_; (with_reducible refine (impl_FjCheckArray.calls a0 t108 t109 _ ?side1 A5.out).mono ?_); (case side1 => exact GLErr.keep HGL.out (by repeat (first | (with_reducible first | exact HB.out | apply below_alloc | apply pw_below_drewN | apply below_drew1) | exact HB.out))); rintro e w20 ⟨rfl, hb⟩; refine ⟨_, rfl, ?_⟩; have n0_ := Aside0.mk (below_step (by repeat (first | (with_reducible first | exact HB.out | apply below_alloc | apply pw_below_drewN | apply below_drew1) | exact HB.out)) hb); clear HB; have HB := n0_; clear n0_; (try clear hb); (try clear hb2); (try clear hk); (try clear hi)) | ((with_reducible refine gate_callee (f := 17) rfl ?_); refine goesL_ (some 26) rfl rfl Tryd.func17 (by kernel_rfl) rfl #[.string (⟨#[49, 44, 50, 93]⟩ : ByteArray)] rfl (by (try simp only [List.map_toArray, List.map_cons, List.map_nil]); first | done | rfl | (simp only [List.length_drop, List.length_take]; rfl)) ?_; (with_reducible refine (impl_FjCheckArray.calls (⟨#[49, 44, 50, 93]⟩ : ByteArray) t110 false _ ?side1 A6.out).mono ?_); (case side1 => exact GLErr.keep HGL.out (by repeat (first | (with_reducible first | exact HB.out | apply below_alloc | apply pw_below_drewN | apply below_drew1) | exact HB.out))); rintro e w21 ⟨rfl, hb⟩; refine ⟨_, rfl, ?_⟩; have n0_ := Aside0.mk (below_step (by repeat (first | (with_reducible first | exact HB.out | apply below_alloc | apply pw_below_drewN | apply below_drew1) | exact HB.out)) hb); clear HB; have HB := n0_; clear n0_; (try clear hb); (try clear hb2); (try clear hk); (try clear hi)))
    go_ret
    exact ⟨by first | rfl | (simp [errW_none, errW_some] <;> rfl) | (simp [*, errW_none, errW_some] <;> rfl), by repeat (first | (with_reducible first | exact HB.out | apply below_alloc | apply pw_below_drewN | apply below_drew1) | exact HB.out)⟩

/-- THE ONE PURE STATEMENT of laws_FnFjCheckElements: yours. -/
def laws_FnFjCheckElements.Pure : Prop := ∀ (a0 : ByteArray), a0.size ≤ 140737488351232 → ∃ k, laws_FnFjCheckElements.f k a0 = some true
theorem laws_FnFjCheckElements.walk (P : laws_FnFjCheckElements.Pure) (a0 : ByteArray) (w : World) (hG : GLErr w) (w0 : a0.size ≤ 140737488351232) :
  Calls Tryd.prog 6 #[.string a0] w fun e w' => e = .returned (.bool true) ∧ Below w.heap.size w w' := by
 obtain ⟨k, h⟩ := P a0 w0
 refine (laws_FnFjCheckElements.calls k a0 true w hG h).mono ?_
 rintro e w' ⟨rfl, hd⟩
 exact ⟨rfl, hd⟩

end Go.Proofs.YtnidncohhinjbaaDoor.MFnFjCheckElements
