/- What Go functions compute, as functions of numbers and lists, and the walks that show it. No condition. Written by a program (wip/tools/mprint.py) over the kit's print. -/
import Derived.Test.YtifcmhekpbfboaaMFnSjPathOften0
import Derived.Test.YtifcmhekpbfboaaMFnSjPathOften1
import Derived.Test.YtifcmhekpbfboaaMFnSjPathOften2
import Derived.Test.YtifcmhekpbfboaaSjp
namespace Go.Proofs.Ytifcmhekpbfboaa.MFnSjPathOften
open Go.RowKit Go.Proofs.YtifcmhekpbfboaaW.PrintWords Go.Proofs.YtifcmhekpbfboaaW.PrintLast Go.Proofs.YtifcmhekpbfboaaW.PrintMore
attribute [local go_sem] max2_int min2_int max_two min_two max_three min_three max_four min_four   -- for this text's walks alone
set_option linter.unusedVariables false
set_option linter.unusedSimpArgs false

/-! ### spec_ColonPath: function 21 -/
mutual
def spec_ColonPath.l0 : Nat → List ByteArray → Int → ByteArray → Int → Int → Option (ByteArray)
 | 0, _, _, _, _, _ => none
 | k + 1, x0, x1, x5, x8, x9 => if x9 < x8 then (if x9 > 0 then (if x5.size + 1 ≤ 9223372036854775807 then (spec_ColonPath.j1 k x0 x1 (x5 ++ (⟨#[46]⟩ : ByteArray)) x9 x8 x9) else (none)) else (spec_ColonPath.j1 k x0 x1 x5 x9 x8 x9)) else (some x5)
def spec_ColonPath.j1 : Nat → List ByteArray → Int → ByteArray → Int → Int → Int → Option (ByteArray)
 | 0, _, _, _, _, _, _ => none
 | k + 1, x0, x1, x5, x6, x8, x9 => (spec_isName.f x1 x6).bind fun t124 => (if t124 = true then (if x5.size + 1 ≤ 9223372036854775807 then (if 0 ≤ x6 then (if x6 ≤ (wrap64 (x6 + 1)) then (if (wrap64 (x6 + 1)) ≤ (x0.length : Int) then ((spec_PathOf.f k ((x0.take ((wrap64 (x6 + 1)) : Int).toNat).drop (x6 : Int).toNat)).bind fun t126 => (if (x5 ++ (⟨#[58]⟩ : ByteArray)).size + t126.size ≤ 9223372036854775807 then (spec_ColonPath.l0 k x0 x1 ((x5 ++ (⟨#[58]⟩ : ByteArray)) ++ t126) x8 (wrap64 (x9 + 1))) else (none))) else (none)) else (none)) else (none)) else (none)) else (if 0 ≤ x6 then (if x6 ≤ (wrap64 (x6 + 1)) then (if (wrap64 (x6 + 1)) ≤ (x0.length : Int) then ((spec_PathOf.f k ((x0.take ((wrap64 (x6 + 1)) : Int).toNat).drop (x6 : Int).toNat)).bind fun t128 => (if x5.size + t128.size ≤ 9223372036854775807 then (spec_ColonPath.l0 k x0 x1 (x5 ++ t128) x8 (wrap64 (x9 + 1))) else (none))) else (none)) else (none)) else (none)))
end
def spec_ColonPath.f (k : Nat) (l0 : List ByteArray) (a1 : Int) : Option (ByteArray) := spec_ColonPath.l0 k l0 a1 (⟨#[]⟩ : ByteArray) (l0.length : Int) 0
theorem spec_ColonPath.mono_l : ∀ k, (∀ y0 y1 y2 y3 y4, LeO (spec_ColonPath.l0 k y0 y1 y2 y3 y4) (spec_ColonPath.l0 (k + 1) y0 y1 y2 y3 y4)) ∧ (∀ y0 y1 y2 y3 y4 y5, LeO (spec_ColonPath.j1 k y0 y1 y2 y3 y4 y5) (spec_ColonPath.j1 (k + 1) y0 y1 y2 y3 y4 y5))
 | 0 => ⟨fun _ _ _ _ _ r h => by simp [spec_ColonPath.l0] at h, fun _ _ _ _ _ _ r h => by simp [spec_ColonPath.j1] at h⟩
 | k + 1 => by
  obtain ⟨ih0, ih1⟩ := spec_ColonPath.mono_l k
  refine ⟨?_, ?_⟩
  ·
   intro y0 y1 y2 y3 y4
   unfold spec_ColonPath.l0
   repeat' first
   | (with_reducible exact ih0 _ _ _ _ _)
   | (with_reducible exact ih1 _ _ _ _ _ _)
   | (with_reducible exact spec_PathOf.mono _ _)
   | (with_reducible exact LeO.refl _)
   | (with_reducible exact LeO.none _)
   | (with_reducible refine LeO.ite ?_ ?_)
   | (with_reducible refine LeO.bind ?_ (fun _ => ?_))
   | exact ih0 _ _ _ _ _
   | exact ih1 _ _ _ _ _ _
   | exact spec_PathOf.mono _ _
   | exact LeO.none _
   | refine LeO.ite ?_ ?_
   | refine LeO.bind ?_ (fun _ => ?_)
  ·
   intro y0 y1 y2 y3 y4 y5
   unfold spec_ColonPath.j1
   repeat' first
   | (with_reducible exact ih0 _ _ _ _ _)
   | (with_reducible exact ih1 _ _ _ _ _ _)
   | (with_reducible exact spec_PathOf.mono _ _)
   | (with_reducible exact LeO.refl _)
   | (with_reducible exact LeO.none _)
   | (with_reducible refine LeO.ite ?_ ?_)
   | (with_reducible refine LeO.bind ?_ (fun _ => ?_))
   | exact ih0 _ _ _ _ _
   | exact ih1 _ _ _ _ _ _
   | exact spec_PathOf.mono _ _
   | exact LeO.none _
   | refine LeO.ite ?_ ?_
   | refine LeO.bind ?_ (fun _ => ?_)
theorem spec_ColonPath.mono : ∀ a0 a1 k, LeO (spec_ColonPath.f k a0 a1) (spec_ColonPath.f (k + 1) a0 a1) := by
 intro a0 a1 k
 obtain ⟨ih0, ih1⟩ := spec_ColonPath.mono_l k
 unfold spec_ColonPath.f
 repeat' first
   | (with_reducible exact ih0 _ _ _ _ _)
   | (with_reducible exact ih1 _ _ _ _ _ _)
   | (with_reducible exact spec_PathOf.mono _ _)
   | (with_reducible exact LeO.refl _)
   | (with_reducible exact LeO.none _)
   | (with_reducible refine LeO.ite ?_ ?_)
   | (with_reducible refine LeO.bind ?_ (fun _ => ?_))
   | exact ih0 _ _ _ _ _
   | exact ih1 _ _ _ _ _ _
   | exact spec_PathOf.mono _ _
   | exact LeO.none _
   | refine LeO.ite ?_ ?_
   | refine LeO.bind ?_ (fun _ => ?_)
set_option maxHeartbeats 8000000 in
set_option maxRecDepth 100000 in
theorem spec_ColonPath.calls (k : Nat) (A0 : Option Addr) (c0 : Nat) (l0 : List ByteArray) (a1 : Int) (r : ByteArray) (w : World) (hr0 : Kd.C Kd.string w A0 l0.length l0) (hc0 : l0.length ≤ c0) (h : spec_ColonPath.f k l0 a1 = some r) :
  Calls Try.prog 21 #[.slice A0 l0.length c0, .int .u64 a1] w fun e w' => e = .returned (.string r) ∧ Below w.heap.size w w' := by
 have HR0 := Aside0.mk hr0
 have HC0 := Aside0.mk hc0
 clear hr0 hc0
 have HB := Aside0.mk (Below.refl w.heap.size w)
 have H : (spec_ColonPath.l0 k l0 a1 (⟨#[]⟩ : ByteArray) (l0.length : Int) 0) = some r := h
 clear h
 have H' := Aside0.mk H
 clear H
 go_enter Try.func21, Try.ntmps21
 go_wp2
 try simp only [Act.put, List.setIfInBounds_toArray, List.set_cons_succ, List.set_cons_zero]
 go_loopg [5, 9] k (fun kq v5 v9 w' => ∃ (x5_1 : ByteArray) (x9_1 : Int), v5 = .string x5_1 ∧ v9 = .int .i64 x9_1 ∧ Aside0 (spec_ColonPath.l0 kq l0 a1 x5_1 (l0.length : Int) x9_1 = some r) ∧ Aside0 (kq ≤ k) ∧ Aside0 (Below w.heap.size w w'))
 case atStart => exact ⟨((⟨#[]⟩ : ByteArray)), (0), (by first | rfl | (simp; done) | (simp [*]; done) | (simp; rw [Bool.eq_iff_iff]; simp; done)), (by first | rfl | (simp; done) | (simp [*]; done) | (simp; rw [Bool.eq_iff_iff]; simp; done)), H', ⟨Nat.le_refl _⟩, ⟨by repeat (first | (with_reducible first | exact HB.out | apply below_alloc | apply pw_below_drewN | apply below_drew1) | exact HB.out)⟩⟩
 case round =>
  clear H'
  (try clear c2); (try clear p2)
  obtain ⟨x5_1, x9_1, rfl, rfl, HA, HK1, HB⟩ := hrel
  cases gk with
  | zero => exact absurd HA.out (by simp [spec_ColonPath.l0])
  | succ k1 =>
   have H := HA.out
   clear HA
   simp only [spec_ColonPath.l0] at H
   by_cases c3 : x9_1 < (l0.length : Int)
   ·
    rw [if_pos c3] at H
    have c3b0 : decide (x9_1 < (l0.length : Int)) = true := decide_eq_true c3
    clear c3
    have HC4 := Aside0.mk H
    clear H
    go_upto_if 13 with (fail)
    go_cut [5] (fun v5 wc => ∃ (kq : Nat) (x5_3 : ByteArray), v5 = .string x5_3 ∧ Aside0 (spec_ColonPath.j1 kq l0 a1 x5_3 x9_1 (l0.length : Int) x9_1 = some r) ∧ Aside0 (kq ≤ k1) ∧ Aside0 (Below w.heap.size w wc))
    case first =>
     have H := HC4.out
     clear HC4
     by_cases c5 : x9_1 > 0
     ·
      rw [if_pos c5] at H
      have c5b0 : decide (0 < x9_1) = true := decide_eq_true c5
      clear c5
      (first | rw [c5b0] | (simp only [i64_w, i32_w]; rw [c5b0]) | skip)
      by_cases c6 : x5_1.size + 1 ≤ 9223372036854775807
      ·
       rw [if_pos c6] at H
       have c6b0 := eq_true c6
       have c6b1 : decide (x5_1.size + 1 ≤ 9223372036854775807) = true := decide_eq_true c6
       try have c6b2 : (9223372036854775807 < x5_1.size + 1) = False := eq_false (Nat.not_lt.2 c6)
       have H' := Aside0.mk H
       clear H
       go_wp2
       go_meet
       case rel => exact ⟨_, (x5_1 ++ (⟨#[46]⟩ : ByteArray)), (by first | rfl | (simp; done) | (simp [*]; done) | (simp; rw [Bool.eq_iff_iff]; simp; done)), H', ⟨by have := HK1.out; first | omega | exact Nat.le_refl _⟩, ⟨by repeat (first | (with_reducible first | exact HB.out | apply below_alloc | apply pw_below_drewN | apply below_drew1) | exact HB.out)⟩⟩
      ·
       rw [if_neg c6] at H
       exact absurd H (by simp)
     ·
      rw [if_neg c5] at H
      have c5b0 : decide (0 < x9_1) = false := decide_eq_false c5
      clear c5
      (first | rw [c5b0] | (simp only [i64_w, i32_w]; rw [c5b0]) | skip)
      have H' := Aside0.mk H
      clear H
      go_wp2
      go_meet
      case rel => exact ⟨_, (x5_1), (by first | rfl | (simp; done) | (simp [*]; done) | (simp; rw [Bool.eq_iff_iff]; simp; done)), H', ⟨by have := HK1.out; first | omega | exact Nat.le_refl _⟩, ⟨by repeat (first | (with_reducible first | exact HB.out | apply below_alloc | apply pw_below_drewN | apply below_drew1) | exact HB.out)⟩⟩
    case rest =>
     clear HC4
     (try clear c2); (try clear p2); (try clear c3); (try clear c3b0); (try clear c5); (try clear c5b0); (try clear c6); (try clear c6b0); (try clear c6b1); (try clear c6b2); (try clear p2)
     obtain ⟨kq, x5_3, rfl, HA, HJ3, HB⟩ := hcut
     cases kq with
     | zero => exact absurd HA.out (by simp [spec_ColonPath.j1])
     | succ kj3 =>
      have H := HA.out
      clear HA
      simp only [spec_ColonPath.j1] at H
      replace H := Option.bind_eq_some_iff.mp H
      obtain ⟨t124, A70, H⟩ := H
      replace H : (if t124 = true then (if x5_3.size + 1 ≤ 9223372036854775807 then (if 0 ≤ x9_1 then (if x9_1 ≤ (wrap64 (x9_1 + 1)) then (if (wrap64 (x9_1 + 1)) ≤ (l0.length : Int) then ((spec_PathOf.f kj3 ((l0.take ((wrap64 (x9_1 + 1)) : Int).toNat).drop (x9_1 : Int).toNat)).bind fun t126 => (if (x5_3 ++ (⟨#[58]⟩ : ByteArray)).size + t126.size ≤ 9223372036854775807 then (spec_ColonPath.l0 kj3 l0 a1 ((x5_3 ++ (⟨#[58]⟩ : ByteArray)) ++ t126) (l0.length : Int) (wrap64 (x9_1 + 1))) else (none))) else (none)) else (none)) else (none)) else (none)) else (if 0 ≤ x9_1 then (if x9_1 ≤ (wrap64 (x9_1 + 1)) then (if (wrap64 (x9_1 + 1)) ≤ (l0.length : Int) then ((spec_PathOf.f kj3 ((l0.take ((wrap64 (x9_1 + 1)) : Int).toNat).drop (x9_1 : Int).toNat)).bind fun t128 => (if x5_3.size + t128.size ≤ 9223372036854775807 then (spec_ColonPath.l0 kj3 l0 a1 (x5_3 ++ t128) (l0.length : Int) (wrap64 (x9_1 + 1))) else (none))) else (none)) else (none)) else (none))) = some r := H
      have A7 := Aside0.mk A70
      clear A70
      by_cases c8 : t124 = true
      ·
       subst c8
       have H1 : (if x5_3.size + 1 ≤ 9223372036854775807 then (if 0 ≤ x9_1 then (if x9_1 ≤ (wrap64 (x9_1 + 1)) then (if (wrap64 (x9_1 + 1)) ≤ (l0.length : Int) then ((spec_PathOf.f kj3 ((l0.take ((wrap64 (x9_1 + 1)) : Int).toNat).drop (x9_1 : Int).toNat)).bind fun t126 => (if (x5_3 ++ (⟨#[58]⟩ : ByteArray)).size + t126.size ≤ 9223372036854775807 then (spec_ColonPath.l0 kj3 l0 a1 ((x5_3 ++ (⟨#[58]⟩ : ByteArray)) ++ t126) (l0.length : Int) (wrap64 (x9_1 + 1))) else (none))) else (none)) else (none)) else (none)) else (none)) = some r := by rw [if_pos rfl] at H; exact H
       clear H
       have H := H1
       clear H1
       by_cases c9 : x5_3.size + 1 ≤ 9223372036854775807
       ·
        rw [if_pos c9] at H
        have c9b0 := eq_true c9
        have c9b1 : decide (x5_3.size + 1 ≤ 9223372036854775807) = true := decide_eq_true c9
        try have c9b2 : (9223372036854775807 < x5_3.size + 1) = False := eq_false (Nat.not_lt.2 c9)
        by_cases c10 : 0 ≤ x9_1
        ·
         rw [if_pos c10] at H
         have c10b0 := eq_true c10
         have c10b1 : decide (0 ≤ x9_1) = true := decide_eq_true c10
         clear c10
         by_cases c11 : x9_1 ≤ (wrap64 (x9_1 + 1))
         ·
          rw [if_pos c11] at H
          have c11b0 := eq_true c11
          have c11b1 : decide (x9_1 ≤ (wrap64 (x9_1 + 1))) = true := decide_eq_true c11
          by_cases c12 : (wrap64 (x9_1 + 1)) ≤ (l0.length : Int)
          ·
           rw [if_pos c12] at H
           have c12b0 := eq_true c12
           have c12b1 : decide ((wrap64 (x9_1 + 1)) ≤ (l0.length : Int)) = true := decide_eq_true c12
           replace H := Option.bind_eq_some_iff.mp H
           obtain ⟨t126, A130, H⟩ := H
           replace H : (if (x5_3 ++ (⟨#[58]⟩ : ByteArray)).size + t126.size ≤ 9223372036854775807 then (spec_ColonPath.l0 kj3 l0 a1 ((x5_3 ++ (⟨#[58]⟩ : ByteArray)) ++ t126) (l0.length : Int) (wrap64 (x9_1 + 1))) else (none)) = some r := H
           have A13 := Aside0.mk A130
           clear A130
           by_cases c14 : (x5_3 ++ (⟨#[58]⟩ : ByteArray)).size + t126.size ≤ 9223372036854775807
           ·
            rw [if_pos c14] at H
            have c14b0 := eq_true c14
            have c14b1 : decide ((x5_3 ++ (⟨#[58]⟩ : ByteArray)).size + t126.size ≤ 9223372036854775807) = true := decide_eq_true c14
            try have c14b2 : (9223372036854775807 < (x5_3 ++ (⟨#[58]⟩ : ByteArray)).size + t126.size) = False := eq_false (Nat.not_lt.2 c14)
            try have c14b3 : (9223372036854775807 < x5_3.size + 1 + t126.size) = False := by have h_ := c14b2; rw [ByteArray.size_append] at h_; exact h_
            have H' := Aside0.mk H
            clear H
            go_wp2_with (first | ((with_reducible refine gate_callee (f := 35) rfl ?_); refine goesL_ (some 18) rfl rfl Try.func35 (by kernel_rfl) rfl #[.int .u64 a1, .int .i64 x9_1] rfl (by (try simp only [List.map_toArray, List.map_cons, List.map_nil]); first | done | rfl | (simp only [List.length_drop, List.length_take]; rfl)) ?_; (with_reducible refine (spec_isName.calls a1 x9_1 true _ A7.out).mono ?_); rintro e w' ⟨rfl, ⟨nd, rfl⟩⟩; refine ⟨_, rfl, ?_⟩; obtain ⟨i015, hi015, _, hsz15, _⟩ := info_parts info9; obtain ⟨A15, hcut15, hA15, hC15⟩ := print_mid_of (P := Try.prog) Value.string (⟨#[]⟩ : ByteArray) 30 9 .i64 .i64 Try.underlying30 hi015 hsz15 A0 c0 l0 x9_1 (wrap64 (x9_1 + 1)) (of_decide_eq_true (by first | (with_reducible assumption) | assumption)) (by first | omega | exact of_decide_eq_true (by first | (with_reducible assumption) | assumption)) (of_decide_eq_true (by first | (with_reducible assumption) | assumption)) HC0.out; have HR125 := Aside0.mk (Kd.C_of_reads (h1 := fun _ => rfl) (hA15 _ (Kd.reads_of_C HR0.out))); have HC125 := Aside0.mk hC15; clear hA15 hC15 hi015 hsz15) | ((with_reducible refine gate_callee (f := 23) rfl ?_); refine goesL_ (some 27) rfl rfl Try.func23 (by kernel_rfl) rfl #[.slice A15 ((l0.take ((wrap64 (x9_1 + 1)) : Int).toNat).drop (x9_1 : Int).toNat).length (c0 - x9_1.toNat)] rfl (by (try simp only [List.map_toArray, List.map_cons, List.map_nil]); first | done | (rw [show ((l0.take ((wrap64 (x9_1 + 1)) : Int).toNat).drop (x9_1 : Int).toNat).length = ((wrap64 (x9_1 + 1)).toNat - x9_1.toNat) from (by rw [List.length_drop, List.length_take]; have h_ : ((wrap64 (x9_1 + 1)) : Int) ≤ (l0.length : Int) := of_decide_eq_true (by first | (with_reducible assumption) | assumption); omega)] <;> rfl) | rfl | (simp only [List.length_drop, List.length_take]; rfl)) ?_; (with_reducible refine (spec_PathOf.calls kj3 _ _ ((l0.take ((wrap64 (x9_1 + 1)) : Int).toNat).drop (x9_1 : Int).toNat) t126 _ ?side1 ?side2 A13.out).mono ?_); (case side1 => repeat (first | exact (Kd.C_below HR125.out (by repeat (first | (with_reducible first | exact HB.out | apply below_alloc | apply pw_below_drewN | apply below_drew1) | exact HB.out))) | (with_reducible refine Kd.C_alloc ?_ _) | (with_reducible refine Kd.C_drewN ?_ _) | (with_reducible refine Kd.C_drew ?_))); (case side2 => exact HC125.out); rintro e w16 ⟨rfl, hb⟩; refine ⟨_, rfl, ?_⟩; have n0_ := Aside0.mk (below_step (by repeat (first | (with_reducible first | exact HB.out | apply below_alloc | apply pw_below_drewN | apply below_drew1) | exact HB.out)) hb); clear HB; have HB := n0_; clear n0_; (try clear hb); (try clear hb2); (try clear hk); (try clear hi)))
            go_roundg kj3
            case measure => have := HK1.out; have := HJ3.out; omega
            case rel => exact ⟨((x5_3 ++ (⟨#[58]⟩ : ByteArray)) ++ t126), (wrap64 (x9_1 + 1)), (by first | rfl | (simp; done) | (simp [*]; done) | (simp; rw [Bool.eq_iff_iff]; simp; done)), (by first | rfl | (simp; done) | (simp [*]; done) | (simp; rw [Bool.eq_iff_iff]; simp; done)), H', ⟨by have := HK1.out; have := HJ3.out; omega⟩, ⟨by repeat (first | (with_reducible first | exact HB.out | apply below_alloc | apply pw_below_drewN | apply below_drew1) | exact HB.out)⟩⟩
           ·
            rw [if_neg c14] at H
            exact absurd H (by simp)
          ·
           rw [if_neg c12] at H
           exact absurd H (by simp)
         ·
          rw [if_neg c11] at H
          exact absurd H (by simp)
        ·
         rw [if_neg c10] at H
         exact absurd H (by simp)
       ·
        rw [if_neg c9] at H
        exact absurd H (by simp)
      ·
       replace c8 := Bool.eq_false_iff.mpr c8
       subst c8
       have H1 : (if 0 ≤ x9_1 then (if x9_1 ≤ (wrap64 (x9_1 + 1)) then (if (wrap64 (x9_1 + 1)) ≤ (l0.length : Int) then ((spec_PathOf.f kj3 ((l0.take ((wrap64 (x9_1 + 1)) : Int).toNat).drop (x9_1 : Int).toNat)).bind fun t128 => (if x5_3.size + t128.size ≤ 9223372036854775807 then (spec_ColonPath.l0 kj3 l0 a1 (x5_3 ++ t128) (l0.length : Int) (wrap64 (x9_1 + 1))) else (none))) else (none)) else (none)) else (none)) = some r := by rw [if_neg (show ¬ (false = true) by decide)] at H; exact H
       clear H
       have H := H1
       clear H1
       by_cases c17 : 0 ≤ x9_1
       ·
        rw [if_pos c17] at H
        have c17b0 := eq_true c17
        have c17b1 : decide (0 ≤ x9_1) = true := decide_eq_true c17
        clear c17
        by_cases c18 : x9_1 ≤ (wrap64 (x9_1 + 1))
        ·
         rw [if_pos c18] at H
         have c18b0 := eq_true c18
         have c18b1 : decide (x9_1 ≤ (wrap64 (x9_1 + 1))) = true := decide_eq_true c18
         by_cases c19 : (wrap64 (x9_1 + 1)) ≤ (l0.length : Int)
         ·
          rw [if_pos c19] at H
          have c19b0 := eq_true c19
          have c19b1 : decide ((wrap64 (x9_1 + 1)) ≤ (l0.length : Int)) = true := decide_eq_true c19
          replace H := Option.bind_eq_some_iff.mp H
          obtain ⟨t128, A200, H⟩ := H
          replace H : (if x5_3.size + t128.size ≤ 9223372036854775807 then (spec_ColonPath.l0 kj3 l0 a1 (x5_3 ++ t128) (l0.length : Int) (wrap64 (x9_1 + 1))) else (none)) = some r := H
          have A20 := Aside0.mk A200
          clear A200
          by_cases c21 : x5_3.size + t128.size ≤ 9223372036854775807
          ·
           rw [if_pos c21] at H
           have c21b0 := eq_true c21
           have c21b1 : decide (x5_3.size + t128.size ≤ 9223372036854775807) = true := decide_eq_true c21
           try have c21b2 : (9223372036854775807 < x5_3.size + t128.size) = False := eq_false (Nat.not_lt.2 c21)
           have H' := Aside0.mk H
           clear H
           go_wp2_with (first | ((with_reducible refine gate_callee (f := 35) rfl ?_); refine goesL_ (some 18) rfl rfl Try.func35 (by kernel_rfl) rfl #[.int .u64 a1, .int .i64 x9_1] rfl (by (try simp only [List.map_toArray, List.map_cons, List.map_nil]); first | done | rfl | (simp only [List.length_drop, List.length_take]; rfl)) ?_; (with_reducible refine (spec_isName.calls a1 x9_1 false _ A7.out).mono ?_); rintro e w' ⟨rfl, ⟨nd, rfl⟩⟩; refine ⟨_, rfl, ?_⟩; obtain ⟨i022, hi022, _, hsz22, _⟩ := info_parts info9; obtain ⟨A22, hcut22, hA22, hC22⟩ := print_mid_of (P := Try.prog) Value.string (⟨#[]⟩ : ByteArray) 30 9 .i64 .i64 Try.underlying30 hi022 hsz22 A0 c0 l0 x9_1 (wrap64 (x9_1 + 1)) (of_decide_eq_true (by first | (with_reducible assumption) | assumption)) (by first | omega | exact of_decide_eq_true (by first | (with_reducible assumption) | assumption)) (of_decide_eq_true (by first | (with_reducible assumption) | assumption)) HC0.out; have HR127 := Aside0.mk (Kd.C_of_reads (h1 := fun _ => rfl) (hA22 _ (Kd.reads_of_C HR0.out))); have HC127 := Aside0.mk hC22; clear hA22 hC22 hi022 hsz22) | ((with_reducible refine gate_callee (f := 23) rfl ?_); refine goesL_ (some 27) rfl rfl Try.func23 (by kernel_rfl) rfl #[.slice A22 ((l0.take ((wrap64 (x9_1 + 1)) : Int).toNat).drop (x9_1 : Int).toNat).length (c0 - x9_1.toNat)] rfl (by (try simp only [List.map_toArray, List.map_cons, List.map_nil]); first | done | (rw [show ((l0.take ((wrap64 (x9_1 + 1)) : Int).toNat).drop (x9_1 : Int).toNat).length = ((wrap64 (x9_1 + 1)).toNat - x9_1.toNat) from (by rw [List.length_drop, List.length_take]; have h_ : ((wrap64 (x9_1 + 1)) : Int) ≤ (l0.length : Int) := of_decide_eq_true (by first | (with_reducible assumption) | assumption); omega)] <;> rfl) | rfl | (simp only [List.length_drop, List.length_take]; rfl)) ?_; (with_reducible refine (spec_PathOf.calls kj3 _ _ ((l0.take ((wrap64 (x9_1 + 1)) : Int).toNat).drop (x9_1 : Int).toNat) t128 _ ?side1 ?side2 A20.out).mono ?_); (case side1 => repeat (first | exact (Kd.C_below HR127.out (by repeat (first | (with_reducible first | exact HB.out | apply below_alloc | apply pw_below_drewN | apply below_drew1) | exact HB.out))) | (with_reducible refine Kd.C_alloc ?_ _) | (with_reducible refine Kd.C_drewN ?_ _) | (with_reducible refine Kd.C_drew ?_))); (case side2 => exact HC127.out); rintro e w23 ⟨rfl, hb⟩; refine ⟨_, rfl, ?_⟩; have n0_ := Aside0.mk (below_step (by repeat (first | (with_reducible first | exact HB.out | apply below_alloc | apply pw_below_drewN | apply below_drew1) | exact HB.out)) hb); clear HB; have HB := n0_; clear n0_; (try clear hb); (try clear hb2); (try clear hk); (try clear hi)))
           go_roundg kj3
           case measure => have := HK1.out; have := HJ3.out; omega
           case rel => exact ⟨(x5_3 ++ t128), (wrap64 (x9_1 + 1)), (by first | rfl | (simp; done) | (simp [*]; done) | (simp; rw [Bool.eq_iff_iff]; simp; done)), (by first | rfl | (simp; done) | (simp [*]; done) | (simp; rw [Bool.eq_iff_iff]; simp; done)), H', ⟨by have := HK1.out; have := HJ3.out; omega⟩, ⟨by repeat (first | (with_reducible first | exact HB.out | apply below_alloc | apply pw_below_drewN | apply below_drew1) | exact HB.out)⟩⟩
          ·
           rw [if_neg c21] at H
           exact absurd H (by simp)
         ·
          rw [if_neg c19] at H
          exact absurd H (by simp)
        ·
         rw [if_neg c18] at H
         exact absurd H (by simp)
       ·
        rw [if_neg c17] at H
        exact absurd H (by simp)
   ·
    rw [if_neg c3] at H
    have c3b0 : decide (x9_1 < (l0.length : Int)) = false := decide_eq_false c3
    clear c3
    obtain rfl := Option.some.inj H
    go_wp2
    go_ret
    exact ⟨by first | rfl | (simp [errW_none, errW_some] <;> rfl) | (simp [*, errW_none, errW_some] <;> rfl), by repeat (first | (with_reducible first | exact HB.out | apply below_alloc | apply pw_below_drewN | apply below_drew1) | exact HB.out)⟩

/-! ### laws_FnSjPathOften: function 7 -/
def laws_FnSjPathOften.l0 : Nat → List ByteArray → Int → ByteArray → List ByteArray → Int → Int → Option (Bool)
 | 0, _, _, _, _, _, _ => none
 | k + 1, x0, x1, x5, x23, x24, x25 => if x25 < x24 then (if 0 ≤ x25 then (if x25 < (x23.length : Int) then ((impl_SjPath.f x5).bind fun bt133 => (if bt133.2.2.2.2.2 = true then (if bt133.1.toList = (rdOf ByteArray.empty x23 x25).toList then (if x25 ≤ (wrap64 (x25 + 1)) then (if (wrap64 (x25 + 1)) ≤ (x0.length : Int) then ((spec_PathOf.f k ((x0.take ((wrap64 (x25 + 1)) : Int).toNat).drop (x25 : Int).toNat)).bind fun t140 => (if bt133.2.1.toList = t140.toList then (if 0 ≤ (IntKind.u64.wrap (x25)) then (if (bt133.2.2.2.1 != ((Go.bits .and .u64 (shr .u64 x1 (IntKind.u64.wrap (x25))) 1) == 1)) = true then (some false) else (if (bt133.2.2.2.2.1 != (decide (x25 < (wrap64 ((x0.length : Int) - 1))))) = true then (some false) else (laws_FnSjPathOften.l0 k x0 x1 bt133.2.2.1 x23 x24 (wrap64 (x25 + 1))))) else (none)) else (some false))) else (none)) else (none)) else (some false)) else (some false))) else (none)) else (none)) else (some true)
def laws_FnSjPathOften.f (k : Nat) (l0 : List ByteArray) (a1 : Int) : Option (Bool) := (laws_zzFits1.f k l0).bind fun t129 => (if t129 = true then ((laws_sjKeys.f k l0).bind fun t130 => (if t130 = true then ((spec_ColonPath.f k l0 a1).bind fun t131 => (laws_FnSjPathOften.l0 k l0 a1 t131 l0 (l0.length : Int) 0)) else (some true))) else (some true))
theorem laws_FnSjPathOften.mono_l : ∀ k, (∀ y0 y1 y2 y3 y4 y5, LeO (laws_FnSjPathOften.l0 k y0 y1 y2 y3 y4 y5) (laws_FnSjPathOften.l0 (k + 1) y0 y1 y2 y3 y4 y5))
 | 0 => fun _ _ _ _ _ _ r h => by simp [laws_FnSjPathOften.l0] at h
 | k + 1 => by
  have ih0 := laws_FnSjPathOften.mono_l k
  ·
   intro y0 y1 y2 y3 y4 y5
   unfold laws_FnSjPathOften.l0
   repeat' first
   | (with_reducible exact ih0 _ _ _ _ _ _)
   | (with_reducible exact laws_sjKeys.mono _ _)
   | (with_reducible exact laws_zzFits1.mono _ _)
   | (with_reducible exact spec_ColonPath.mono _ _ _)
   | (with_reducible exact spec_PathOf.mono _ _)
   | (with_reducible exact LeO.refl _)
   | (with_reducible exact LeO.none _)
   | (with_reducible refine LeO.ite ?_ ?_)
   | (with_reducible refine LeO.bind ?_ (fun _ => ?_))
   | exact ih0 _ _ _ _ _ _
   | exact laws_sjKeys.mono _ _
   | exact laws_zzFits1.mono _ _
   | exact spec_ColonPath.mono _ _ _
   | exact spec_PathOf.mono _ _
   | exact LeO.none _
   | refine LeO.ite ?_ ?_
   | refine LeO.bind ?_ (fun _ => ?_)
theorem laws_FnSjPathOften.mono : ∀ a0 a1 k, LeO (laws_FnSjPathOften.f k a0 a1) (laws_FnSjPathOften.f (k + 1) a0 a1) := by
 intro a0 a1 k
 have ih0 := laws_FnSjPathOften.mono_l k
 unfold laws_FnSjPathOften.f
 repeat' first
   | (with_reducible exact ih0 _ _ _ _ _ _)
   | (with_reducible exact laws_sjKeys.mono _ _)
   | (with_reducible exact laws_zzFits1.mono _ _)
   | (with_reducible exact spec_ColonPath.mono _ _ _)
   | (with_reducible exact spec_PathOf.mono _ _)
   | (with_reducible exact LeO.refl _)
   | (with_reducible exact LeO.none _)
   | (with_reducible refine LeO.ite ?_ ?_)
   | (with_reducible refine LeO.bind ?_ (fun _ => ?_))
   | exact ih0 _ _ _ _ _ _
   | exact laws_sjKeys.mono _ _
   | exact laws_zzFits1.mono _ _
   | exact spec_ColonPath.mono _ _ _
   | exact spec_PathOf.mono _ _
   | exact LeO.none _
   | refine LeO.ite ?_ ?_
   | refine LeO.bind ?_ (fun _ => ?_)
set_option maxHeartbeats 8000000 in
set_option maxRecDepth 100000 in
theorem laws_FnSjPathOften.calls (k : Nat) (A0 : Option Addr) (c0 : Nat) (l0 : List ByteArray) (a1 : Int) (r : Bool) (w : World) (hr0 : Kd.C Kd.string w A0 l0.length l0) (hc0 : l0.length ≤ c0) (h : laws_FnSjPathOften.f k l0 a1 = some r) :
  Calls Try.prog 7 #[.slice A0 l0.length c0, .int .u64 a1] w fun e w' => e = .returned (.bool r) ∧ Below w.heap.size w w' := by
 have HR0 := Aside0.mk hr0
 have HC0 := Aside0.mk hc0
 clear hr0 hc0
 have HB := Aside0.mk (Below.refl w.heap.size w)
 have H : ((laws_zzFits1.f k l0).bind fun t129 => (if t129 = true then ((laws_sjKeys.f k l0).bind fun t130 => (if t130 = true then ((spec_ColonPath.f k l0 a1).bind fun t131 => (laws_FnSjPathOften.l0 k l0 a1 t131 l0 (l0.length : Int) 0)) else (some true))) else (some true))) = some r := h
 clear h
 replace H := Option.bind_eq_some_iff.mp H
 obtain ⟨t129, A30, H⟩ := H
 replace H : (if t129 = true then ((laws_sjKeys.f k l0).bind fun t130 => (if t130 = true then ((spec_ColonPath.f k l0 a1).bind fun t131 => (laws_FnSjPathOften.l0 k l0 a1 t131 l0 (l0.length : Int) 0)) else (some true))) else (some true)) = some r := H
 have A3 := Aside0.mk A30
 clear A30
 by_cases c4 : t129 = true
 ·
  subst c4
  have H1 : ((laws_sjKeys.f k l0).bind fun t130 => (if t130 = true then ((spec_ColonPath.f k l0 a1).bind fun t131 => (laws_FnSjPathOften.l0 k l0 a1 t131 l0 (l0.length : Int) 0)) else (some true))) = some r := by rw [if_pos rfl] at H; exact H
  clear H
  have H := H1
  clear H1
  replace H := Option.bind_eq_some_iff.mp H
  obtain ⟨t130, A50, H⟩ := H
  replace H : (if t130 = true then ((spec_ColonPath.f k l0 a1).bind fun t131 => (laws_FnSjPathOften.l0 k l0 a1 t131 l0 (l0.length : Int) 0)) else (some true)) = some r := H
  have A5 := Aside0.mk A50
  clear A50
  by_cases c6 : t130 = true
  ·
   subst c6
   have H1 : ((spec_ColonPath.f k l0 a1).bind fun t131 => (laws_FnSjPathOften.l0 k l0 a1 t131 l0 (l0.length : Int) 0)) = some r := by rw [if_pos rfl] at H; exact H
   clear H
   have H := H1
   clear H1
   replace H := Option.bind_eq_some_iff.mp H
   obtain ⟨t131, A70, H⟩ := H
   replace H : (laws_FnSjPathOften.l0 k l0 a1 t131 l0 (l0.length : Int) 0) = some r := H
   have A7 := Aside0.mk A70
   clear A70
   have H' := Aside0.mk H
   clear H
   go_enter Try.func7, Try.ntmps7
   go_wp2_with (first | ((with_reducible refine gate_callee (f := 19) rfl ?_); refine goesL_ (some 15) rfl rfl Try.func19 (by kernel_rfl) rfl #[.slice A0 l0.length c0] rfl (by (try simp only [List.map_toArray, List.map_cons, List.map_nil]); first | done | rfl | (simp only [List.length_drop, List.length_take]; rfl)) ?_; (with_reducible refine (laws_zzFits1.calls k _ _ l0 true _ ?side1 ?side2 A3.out).mono ?_); (case side1 => repeat (first | exact HR0.out | (with_reducible refine Kd.C_alloc ?_ _) | (with_reducible refine Kd.C_drewN ?_ _) | (with_reducible refine Kd.C_drew ?_))); (case side2 => exact HC0.out); rintro e w' ⟨rfl, ⟨nd, rfl⟩⟩; refine ⟨_, rfl, ?_⟩) | ((with_reducible refine gate_callee (f := 20) rfl ?_); refine goesL_ (some 18) rfl rfl Try.func20 (by kernel_rfl) rfl #[.slice A0 l0.length c0] rfl (by (try simp only [List.map_toArray, List.map_cons, List.map_nil]); first | done | rfl | (simp only [List.length_drop, List.length_take]; rfl)) ?_; (with_reducible refine (laws_sjKeys.calls k _ _ l0 true _ ?side1 ?side2 A5.out).mono ?_); (case side1 => repeat (first | exact HR0.out | (with_reducible refine Kd.C_alloc ?_ _) | (with_reducible refine Kd.C_drewN ?_ _) | (with_reducible refine Kd.C_drew ?_))); (case side2 => exact HC0.out); rintro e w' ⟨rfl, ⟨nd, rfl⟩⟩; refine ⟨_, rfl, ?_⟩) | ((with_reducible refine gate_callee (f := 21) rfl ?_); refine goesL_ (some 22) rfl rfl Try.func21 (by kernel_rfl) rfl #[.slice A0 l0.length c0, .int .u64 a1] rfl (by (try simp only [List.map_toArray, List.map_cons, List.map_nil]); first | done | rfl | (simp only [List.length_drop, List.length_take]; rfl)) ?_; (with_reducible refine (spec_ColonPath.calls k _ _ l0 a1 t131 _ ?side1 ?side2 A7.out).mono ?_); (case side1 => repeat (first | exact HR0.out | (with_reducible refine Kd.C_alloc ?_ _) | (with_reducible refine Kd.C_drewN ?_ _) | (with_reducible refine Kd.C_drew ?_))); (case side2 => exact HC0.out); rintro e w8 ⟨rfl, hb⟩; refine ⟨_, rfl, ?_⟩; have n0_ := Aside0.mk (below_step (by repeat (first | (with_reducible first | exact HB.out | apply below_alloc | apply pw_below_drewN | apply below_drew1) | exact HB.out)) hb); clear HB; have HB := n0_; clear n0_; (try clear hb); (try clear hb2); (try clear hk); (try clear hi)))
   try simp only [Act.put, List.setIfInBounds_toArray, List.set_cons_succ, List.set_cons_zero]
   go_loopg [5, 25] k (fun kq v5 v25 w' => ∃ (x5_1 : ByteArray) (x25_1 : Int), v5 = .string x5_1 ∧ v25 = .int .i64 x25_1 ∧ Aside0 (laws_FnSjPathOften.l0 kq l0 a1 x5_1 l0 (l0.length : Int) x25_1 = some r) ∧ Aside0 (kq ≤ k) ∧ Aside0 (Below w.heap.size w w'))
   case atStart => exact ⟨(t131), (0), (by first | rfl | (simp; done) | (simp [*]; done) | (simp; rw [Bool.eq_iff_iff]; simp; done)), (by first | rfl | (simp; done) | (simp [*]; done) | (simp; rw [Bool.eq_iff_iff]; simp; done)), H', ⟨Nat.le_refl _⟩, ⟨by repeat (first | (with_reducible first | exact HB.out | apply below_alloc | apply pw_below_drewN | apply below_drew1) | exact HB.out)⟩⟩
   case round =>
    clear H'
    (try clear c1); (try clear c2); (try clear p2); (try clear c4); (try clear c6); (try clear c7)
    obtain ⟨x5_1, x25_1, rfl, rfl, HA, HK1, HB⟩ := hrel
    cases gk with
    | zero => exact absurd HA.out (by simp [laws_FnSjPathOften.l0])
    | succ k1 =>
     have H := HA.out
     clear HA
     simp only [laws_FnSjPathOften.l0] at H
     by_cases c9 : x25_1 < (l0.length : Int)
     ·
      rw [if_pos c9] at H
      have c9b0 : decide (x25_1 < (l0.length : Int)) = true := decide_eq_true c9
      clear c9
      by_cases c10 : 0 ≤ x25_1
      ·
       rw [if_pos c10] at H
       have c10b0 : decide (0 ≤ x25_1) = true := decide_eq_true c10
       clear c10
       by_cases c11 : x25_1 < (l0.length : Int)
       ·
        rw [if_pos c11] at H
        have c11b0 : decide (x25_1 < (l0.length : Int)) = true := decide_eq_true c11
        clear c11
        replace H := Option.bind_eq_some_iff.mp H
        obtain ⟨⟨t133, t134, t135, t136, t137, t138⟩, A120, H⟩ := H
        replace H : (if t138 = true then (if t133.toList = (rdOf ByteArray.empty l0 x25_1).toList then (if x25_1 ≤ (wrap64 (x25_1 + 1)) then (if (wrap64 (x25_1 + 1)) ≤ (l0.length : Int) then ((spec_PathOf.f k1 ((l0.take ((wrap64 (x25_1 + 1)) : Int).toNat).drop (x25_1 : Int).toNat)).bind fun t140 => (if t134.toList = t140.toList then (if 0 ≤ (IntKind.u64.wrap (x25_1)) then (if (t136 != ((Go.bits .and .u64 (shr .u64 a1 (IntKind.u64.wrap (x25_1))) 1) == 1)) = true then (some false) else (if (t137 != (decide (x25_1 < (wrap64 ((l0.length : Int) - 1))))) = true then (some false) else (laws_FnSjPathOften.l0 k1 l0 a1 t135 l0 (l0.length : Int) (wrap64 (x25_1 + 1))))) else (none)) else (some false))) else (none)) else (none)) else (some false)) else (some false)) = some r := H
        have A12 := Aside0.mk A120
        clear A120
        by_cases c13 : t138 = true
        ·
         subst c13
         have H1 : (if t133.toList = (rdOf ByteArray.empty l0 x25_1).toList then (if x25_1 ≤ (wrap64 (x25_1 + 1)) then (if (wrap64 (x25_1 + 1)) ≤ (l0.length : Int) then ((spec_PathOf.f k1 ((l0.take ((wrap64 (x25_1 + 1)) : Int).toNat).drop (x25_1 : Int).toNat)).bind fun t140 => (if t134.toList = t140.toList then (if 0 ≤ (IntKind.u64.wrap (x25_1)) then (if (t136 != ((Go.bits .and .u64 (shr .u64 a1 (IntKind.u64.wrap (x25_1))) 1) == 1)) = true then (some false) else (if (t137 != (decide (x25_1 < (wrap64 ((l0.length : Int) - 1))))) = true then (some false) else (laws_FnSjPathOften.l0 k1 l0 a1 t135 l0 (l0.length : Int) (wrap64 (x25_1 + 1))))) else (none)) else (some false))) else (none)) else (none)) else (some false)) = some r := by rw [if_pos rfl] at H; exact H
         clear H
         have H := H1
         clear H1
         by_cases c14 : t133.toList = (rdOf ByteArray.empty l0 x25_1).toList
         ·
          rw [if_pos c14] at H
          have c14b0 : (t133.toList == (rdOf ByteArray.empty l0 x25_1).toList) = true := beq_iff_eq.mpr c14
          have c14b1 : (t133.toList != (rdOf ByteArray.empty l0 x25_1).toList) = false := bne_eq_false_iff_eq.mpr c14
          clear c14
          have c15b0 := eq_true (of_decide_eq_true (by first | (with_reducible assumption) | assumption) : 0 ≤ x25_1)
          by_cases c16 : x25_1 ≤ (wrap64 (x25_1 + 1))
          ·
           rw [if_pos c16] at H
           have c16b0 := eq_true c16
           have c16b1 : decide (x25_1 ≤ (wrap64 (x25_1 + 1))) = true := decide_eq_true c16
           by_cases c17 : (wrap64 (x25_1 + 1)) ≤ (l0.length : Int)
           ·
            rw [if_pos c17] at H
            have c17b0 := eq_true c17
            have c17b1 : decide ((wrap64 (x25_1 + 1)) ≤ (l0.length : Int)) = true := decide_eq_true c17
            replace H := Option.bind_eq_some_iff.mp H
            obtain ⟨t140, A180, H⟩ := H
            replace H : (if t134.toList = t140.toList then (if 0 ≤ (IntKind.u64.wrap (x25_1)) then (if (t136 != ((Go.bits .and .u64 (shr .u64 a1 (IntKind.u64.wrap (x25_1))) 1) == 1)) = true then (some false) else (if (t137 != (decide (x25_1 < (wrap64 ((l0.length : Int) - 1))))) = true then (some false) else (laws_FnSjPathOften.l0 k1 l0 a1 t135 l0 (l0.length : Int) (wrap64 (x25_1 + 1))))) else (none)) else (some false)) = some r := H
            have A18 := Aside0.mk A180
            clear A180
            by_cases c19 : t134.toList = t140.toList
            ·
             rw [if_pos c19] at H
             have c19b0 : (t134.toList == t140.toList) = true := beq_iff_eq.mpr c19
             have c19b1 : (t134.toList != t140.toList) = false := bne_eq_false_iff_eq.mpr c19
             clear c19
             obtain ⟨ji20, hji20⟩ : ∃ j_ : Int, (IntKind.u64.wrap (x25_1)) = j_ := ⟨_, rfl⟩
             replace H : (if 0 ≤ (ji20) then (if (t136 != ((Go.bits .and .u64 (shr .u64 a1 (ji20)) 1) == 1)) = true then (some false) else (if (t137 != (decide (x25_1 < (wrap64 ((l0.length : Int) - 1))))) = true then (some false) else (laws_FnSjPathOften.l0 k1 l0 a1 t135 l0 (l0.length : Int) (wrap64 (x25_1 + 1))))) else (none)) = some r := by first | (rw [hji20] at H; exact H) | (simp only [hji20] at H ⊢; exact H)
             (try rw [hji20] at A12)
             (try rw [hji20] at A18)
             by_cases c21 : 0 ≤ (ji20)
             ·
              rw [if_pos c21] at H
              have c21b0 := eq_true c21
              have c21b1 : decide (0 ≤ (ji20)) = true := decide_eq_true c21
              clear c21
              obtain ⟨ji22, hji22⟩ : ∃ j_ : Int, (shr .u64 a1 (ji20)) = j_ := ⟨_, rfl⟩
              replace H : (if (t136 != ((Go.bits .and .u64 (ji22) 1) == 1)) = true then (some false) else (if (t137 != (decide (x25_1 < (wrap64 ((l0.length : Int) - 1))))) = true then (some false) else (laws_FnSjPathOften.l0 k1 l0 a1 t135 l0 (l0.length : Int) (wrap64 (x25_1 + 1))))) = some r := by first | (rw [hji22] at H; exact H) | (simp only [hji22] at H ⊢; exact H)
              (try rw [hji22] at A12)
              (try rw [hji22] at A18)
              have hji22_ : (a1 / 2 ^ min (ji20).toNat 64) = ji22 := hji22
              have hji22z : (ji20) ≤ 64 → (a1 / 2 ^ (ji20).toNat) = ji22 := shr_small hji22
              by_cases c23 : (t136 != ((Go.bits .and .u64 (ji22) 1) == 1)) = true
              ·
               rw [if_pos c23] at H
               have c23b0 : (t136 != ((Go.bits .and .u64 (ji22) 1) == 1)) = true := c23
               (try (have c23b1 : decide (t136 = ((Go.bits .and .u64 (ji22) 1) == 1)) = false := by simpa using c23))
               (try (have c23b2 : (t136 == ((Go.bits .and .u64 (ji22) 1) == 1)) = false := by simpa using c23))
               (try (have c23b3 : ¬ (t136 = ((Go.bits .and .u64 (ji22) 1) == 1)) := by simpa using c23))
               clear c23
               obtain rfl := Option.some.inj H
               have p132 : 0 ≤ (x25_1 : Int) := of_decide_eq_true (by first | (with_reducible assumption) | assumption)
               have q132 : x25_1 < (l0.length : Int) := of_decide_eq_true (by first | (with_reducible assumption) | assumption)
               obtain ⟨ad132, e132, hx132_0⟩ := Kd.at_string HR0.out x25_1 p132 q132
               cases e132
               replace hx132_0 := (HB.out.cell (World.block_lt_of_cell? w _ hx132_0)).trans hx132_0
               replace p132 := eq_true p132
               replace q132 := eq_true q132
               go_wp2_with (first | ((with_reducible refine gate_callee (f := 22) rfl ?_); refine goesL_ (some 32) rfl rfl Try.func22 (by kernel_rfl) rfl #[.string x5_1] rfl (by (try simp only [List.map_toArray, List.map_cons, List.map_nil]); first | done | rfl | (simp only [List.length_drop, List.length_take]; rfl)) ?_; (with_reducible refine (impl_SjPath.calls x5_1 t133 t134 t135 t136 t137 true _ A12.out).mono ?_); rintro e w24 ⟨rfl, hb⟩; refine ⟨_, rfl, ?_⟩; have n0_ := Aside0.mk (below_step (by repeat (first | (with_reducible first | exact HB.out | apply below_alloc | apply pw_below_drewN | apply below_drew1) | exact HB.out)) hb); clear HB; have HB := n0_; clear n0_; (try clear hb); (try clear hb2); (try clear hk); (try clear hi); obtain ⟨i025, hi025, _, hsz25, _⟩ := info_parts info9; obtain ⟨A25, hcut25, hA25, hC25⟩ := print_mid_of (P := Try.prog) Value.string (⟨#[]⟩ : ByteArray) 30 9 .i64 .i64 Try.underlying30 hi025 hsz25 (some ad132) c0 l0 x25_1 (wrap64 (x25_1 + 1)) (of_decide_eq_true (by first | (with_reducible assumption) | assumption)) (by first | omega | exact of_decide_eq_true (by first | (with_reducible assumption) | assumption)) (of_decide_eq_true (by first | (with_reducible assumption) | assumption)) HC0.out; have HR139 := Aside0.mk (Kd.C_of_reads (h1 := fun _ => rfl) (hA25 _ (Kd.reads_of_C HR0.out))); have HC139 := Aside0.mk hC25; clear hA25 hC25 hi025 hsz25) | (go_at_call 23; (rw [← show ((l0.take ((wrap64 (x25_1 + 1)) : Int).toNat).drop (x25_1 : Int).toNat).length = ((wrap64 (x25_1 + 1)).toNat - x25_1.toNat) from (by rw [List.length_drop, List.length_take]; have h_ : ((wrap64 (x25_1 + 1)) : Int) ≤ (l0.length : Int) := of_decide_eq_true (by first | (with_reducible assumption) | assumption); omega)]); (with_reducible refine (spec_PathOf.calls k1 _ _ ((l0.take ((wrap64 (x25_1 + 1)) : Int).toNat).drop (x25_1 : Int).toNat) t140 _ ?side1 ?side2 A18.out).mono ?_); (case side1 => repeat (first | exact (Kd.C_below HR139.out HB.out) | (with_reducible refine Kd.C_alloc ?_ _) | (with_reducible refine Kd.C_drewN ?_ _) | (with_reducible refine Kd.C_drew ?_))); (case side2 => exact HC139.out); rintro e w26 ⟨rfl, hb⟩; have n0_ := Aside0.mk (below_step (by repeat (first | (with_reducible first | exact HB.out | apply below_alloc | apply pw_below_drewN | apply below_drew1) | exact HB.out)) hb); clear HB; have HB := n0_; clear n0_; (try clear hb); (try clear hb2); (try clear hk); (try clear hi)))
               go_ret
               exact ⟨by first | rfl | (simp [errW_none, errW_some] <;> rfl) | (simp only [← hji20, ← hji22]; first | rfl | (simp [errW_none, errW_some] <;> rfl)) | (simp [*, errW_none, errW_some] <;> rfl), by repeat (first | (with_reducible first | exact HB.out | apply below_alloc | apply pw_below_drewN | apply below_drew1) | exact HB.out)⟩
              ·
               rw [if_neg c23] at H
               have c23b0 : (t136 != ((Go.bits .and .u64 (ji22) 1) == 1)) = false := by simpa using c23
               (try (have c23b1 : decide (t136 = ((Go.bits .and .u64 (ji22) 1) == 1)) = true := by simpa using c23))
               (try (have c23b2 : (t136 == ((Go.bits .and .u64 (ji22) 1) == 1)) = true := by simpa using c23))
               clear c23
               by_cases c27 : (t137 != (decide (x25_1 < (wrap64 ((l0.length : Int) - 1))))) = true
               ·
                rw [if_pos c27] at H
                have c27b0 : (t137 != (decide (x25_1 < (wrap64 ((l0.length : Int) - 1))))) = true := c27
                (try (have c27b1 : decide (t137 = (decide (x25_1 < (wrap64 ((l0.length : Int) - 1))))) = false := by simpa using c27))
                (try (have c27b2 : (t137 == (decide (x25_1 < (wrap64 ((l0.length : Int) - 1))))) = false := by simpa using c27))
                (try (have c27b3 : ¬ (t137 = (decide (x25_1 < (wrap64 ((l0.length : Int) - 1))))) := by simpa using c27))
                clear c27
                obtain rfl := Option.some.inj H
                have p132 : 0 ≤ (x25_1 : Int) := of_decide_eq_true (by first | (with_reducible assumption) | assumption)
                have q132 : x25_1 < (l0.length : Int) := of_decide_eq_true (by first | (with_reducible assumption) | assumption)
                obtain ⟨ad132, e132, hx132_0⟩ := Kd.at_string HR0.out x25_1 p132 q132
                cases e132
                replace hx132_0 := (HB.out.cell (World.block_lt_of_cell? w _ hx132_0)).trans hx132_0
                replace p132 := eq_true p132
                replace q132 := eq_true q132
                go_wp2_with (first | ((with_reducible refine gate_callee (f := 22) rfl ?_); refine goesL_ (some 32) rfl rfl Try.func22 (by kernel_rfl) rfl #[.string x5_1] rfl (by (try simp only [List.map_toArray, List.map_cons, List.map_nil]); first | done | rfl | (simp only [List.length_drop, List.length_take]; rfl)) ?_; (with_reducible refine (impl_SjPath.calls x5_1 t133 t134 t135 t136 t137 true _ A12.out).mono ?_); rintro e w28 ⟨rfl, hb⟩; refine ⟨_, rfl, ?_⟩; have n0_ := Aside0.mk (below_step (by repeat (first | (with_reducible first | exact HB.out | apply below_alloc | apply pw_below_drewN | apply below_drew1) | exact HB.out)) hb); clear HB; have HB := n0_; clear n0_; (try clear hb); (try clear hb2); (try clear hk); (try clear hi); obtain ⟨i029, hi029, _, hsz29, _⟩ := info_parts info9; obtain ⟨A29, hcut29, hA29, hC29⟩ := print_mid_of (P := Try.prog) Value.string (⟨#[]⟩ : ByteArray) 30 9 .i64 .i64 Try.underlying30 hi029 hsz29 (some ad132) c0 l0 x25_1 (wrap64 (x25_1 + 1)) (of_decide_eq_true (by first | (with_reducible assumption) | assumption)) (by first | omega | exact of_decide_eq_true (by first | (with_reducible assumption) | assumption)) (of_decide_eq_true (by first | (with_reducible assumption) | assumption)) HC0.out; have HR139 := Aside0.mk (Kd.C_of_reads (h1 := fun _ => rfl) (hA29 _ (Kd.reads_of_C HR0.out))); have HC139 := Aside0.mk hC29; clear hA29 hC29 hi029 hsz29) | (go_at_call 23; (rw [← show ((l0.take ((wrap64 (x25_1 + 1)) : Int).toNat).drop (x25_1 : Int).toNat).length = ((wrap64 (x25_1 + 1)).toNat - x25_1.toNat) from (by rw [List.length_drop, List.length_take]; have h_ : ((wrap64 (x25_1 + 1)) : Int) ≤ (l0.length : Int) := of_decide_eq_true (by first | (with_reducible assumption) | assumption); omega)]); (with_reducible refine (spec_PathOf.calls k1 _ _ ((l0.take ((wrap64 (x25_1 + 1)) : Int).toNat).drop (x25_1 : Int).toNat) t140 _ ?side1 ?side2 A18.out).mono ?_); (case side1 => repeat (first | exact (Kd.C_below HR139.out HB.out) | (with_reducible refine Kd.C_alloc ?_ _) | (with_reducible refine Kd.C_drewN ?_ _) | (with_reducible refine Kd.C_drew ?_))); (case side2 => exact HC139.out); rintro e w30 ⟨rfl, hb⟩; have n0_ := Aside0.mk (below_step (by repeat (first | (with_reducible first | exact HB.out | apply below_alloc | apply pw_below_drewN | apply below_drew1) | exact HB.out)) hb); clear HB; have HB := n0_; clear n0_; (try clear hb); (try clear hb2); (try clear hk); (try clear hi)))
                go_ret
                exact ⟨by first | rfl | (simp [errW_none, errW_some] <;> rfl) | (simp only [← hji20, ← hji22]; first | rfl | (simp [errW_none, errW_some] <;> rfl)) | (simp [*, errW_none, errW_some] <;> rfl), by repeat (first | (with_reducible first | exact HB.out | apply below_alloc | apply pw_below_drewN | apply below_drew1) | exact HB.out)⟩
               ·
                rw [if_neg c27] at H
                have c27b0 : (t137 != (decide (x25_1 < (wrap64 ((l0.length : Int) - 1))))) = false := by simpa using c27
                (try (have c27b1 : decide (t137 = (decide (x25_1 < (wrap64 ((l0.length : Int) - 1))))) = true := by simpa using c27))
                (try (have c27b2 : (t137 == (decide (x25_1 < (wrap64 ((l0.length : Int) - 1))))) = true := by simpa using c27))
                clear c27
                have H' := Aside0.mk H
                clear H
                have p132 : 0 ≤ (x25_1 : Int) := of_decide_eq_true (by first | (with_reducible assumption) | assumption)
                have q132 : x25_1 < (l0.length : Int) := of_decide_eq_true (by first | (with_reducible assumption) | assumption)
                obtain ⟨ad132, e132, hx132_0⟩ := Kd.at_string HR0.out x25_1 p132 q132
                cases e132
                replace hx132_0 := (HB.out.cell (World.block_lt_of_cell? w _ hx132_0)).trans hx132_0
                replace p132 := eq_true p132
                replace q132 := eq_true q132
                go_wp2_with (first | ((with_reducible refine gate_callee (f := 22) rfl ?_); refine goesL_ (some 32) rfl rfl Try.func22 (by kernel_rfl) rfl #[.string x5_1] rfl (by (try simp only [List.map_toArray, List.map_cons, List.map_nil]); first | done | rfl | (simp only [List.length_drop, List.length_take]; rfl)) ?_; (with_reducible refine (impl_SjPath.calls x5_1 t133 t134 t135 t136 t137 true _ A12.out).mono ?_); rintro e w31 ⟨rfl, hb⟩; refine ⟨_, rfl, ?_⟩; have n0_ := Aside0.mk (below_step (by repeat (first | (with_reducible first | exact HB.out | apply below_alloc | apply pw_below_drewN | apply below_drew1) | exact HB.out)) hb); clear HB; have HB := n0_; clear n0_; (try clear hb); (try clear hb2); (try clear hk); (try clear hi); obtain ⟨i032, hi032, _, hsz32, _⟩ := info_parts info9; obtain ⟨A32, hcut32, hA32, hC32⟩ := print_mid_of (P := Try.prog) Value.string (⟨#[]⟩ : ByteArray) 30 9 .i64 .i64 Try.underlying30 hi032 hsz32 (some ad132) c0 l0 x25_1 (wrap64 (x25_1 + 1)) (of_decide_eq_true (by first | (with_reducible assumption) | assumption)) (by first | omega | exact of_decide_eq_true (by first | (with_reducible assumption) | assumption)) (of_decide_eq_true (by first | (with_reducible assumption) | assumption)) HC0.out; have HR139 := Aside0.mk (Kd.C_of_reads (h1 := fun _ => rfl) (hA32 _ (Kd.reads_of_C HR0.out))); have HC139 := Aside0.mk hC32; clear hA32 hC32 hi032 hsz32) | (go_at_call 23; (rw [← show ((l0.take ((wrap64 (x25_1 + 1)) : Int).toNat).drop (x25_1 : Int).toNat).length = ((wrap64 (x25_1 + 1)).toNat - x25_1.toNat) from (by rw [List.length_drop, List.length_take]; have h_ : ((wrap64 (x25_1 + 1)) : Int) ≤ (l0.length : Int) := of_decide_eq_true (by first | (with_reducible assumption) | assumption); omega)]); (with_reducible refine (spec_PathOf.calls k1 _ _ ((l0.take ((wrap64 (x25_1 + 1)) : Int).toNat).drop (x25_1 : Int).toNat) t140 _ ?side1 ?side2 A18.out).mono ?_); (case side1 => repeat (first | exact (Kd.C_below HR139.out HB.out) | (with_reducible refine Kd.C_alloc ?_ _) | (with_reducible refine Kd.C_drewN ?_ _) | (with_reducible refine Kd.C_drew ?_))); (case side2 => exact HC139.out); rintro e w33 ⟨rfl, hb⟩; have n0_ := Aside0.mk (below_step (by repeat (first | (with_reducible first | exact HB.out | apply below_alloc | apply pw_below_drewN | apply below_drew1) | exact HB.out)) hb); clear HB; have HB := n0_; clear n0_; (try clear hb); (try clear hb2); (try clear hk); (try clear hi)))
                go_roundg k1
                case measure => have := HK1.out; omega
                case rel => exact ⟨(t135), (wrap64 (x25_1 + 1)), (by first | rfl | (simp; done) | (simp [*]; done) | (simp; rw [Bool.eq_iff_iff]; simp; done)), (by first | rfl | (simp; done) | (simp [*]; done) | (simp; rw [Bool.eq_iff_iff]; simp; done)), H', ⟨by have := HK1.out; omega⟩, ⟨by repeat (first | (with_reducible first | exact HB.out | apply below_alloc | apply pw_below_drewN | apply below_drew1) | exact HB.out)⟩⟩
             ·
              rw [if_neg c21] at H
              exact absurd H (by simp)
            ·
             rw [if_neg c19] at H
             have c19b0 : (t134.toList == t140.toList) = false := beq_eq_false_iff_ne.mpr c19
             have c19b1 : (t134.toList != t140.toList) = true := bne_iff_ne.mpr c19
             obtain rfl := Option.some.inj H
             have p132 : 0 ≤ (x25_1 : Int) := of_decide_eq_true (by first | (with_reducible assumption) | assumption)
             have q132 : x25_1 < (l0.length : Int) := of_decide_eq_true (by first | (with_reducible assumption) | assumption)
             obtain ⟨ad132, e132, hx132_0⟩ := Kd.at_string HR0.out x25_1 p132 q132
             cases e132
             replace hx132_0 := (HB.out.cell (World.block_lt_of_cell? w _ hx132_0)).trans hx132_0
             replace p132 := eq_true p132
             replace q132 := eq_true q132
             go_wp2_with (first | ((with_reducible refine gate_callee (f := 22) rfl ?_); refine goesL_ (some 32) rfl rfl Try.func22 (by kernel_rfl) rfl #[.string x5_1] rfl (by (try simp only [List.map_toArray, List.map_cons, List.map_nil]); first | done | rfl | (simp only [List.length_drop, List.length_take]; rfl)) ?_; (with_reducible refine (impl_SjPath.calls x5_1 t133 t134 t135 t136 t137 true _ A12.out).mono ?_); rintro e w34 ⟨rfl, hb⟩; refine ⟨_, rfl, ?_⟩; have n0_ := Aside0.mk (below_step (by repeat (first | (with_reducible first | exact HB.out | apply below_alloc | apply pw_below_drewN | apply below_drew1) | exact HB.out)) hb); clear HB; have HB := n0_; clear n0_; (try clear hb); (try clear hb2); (try clear hk); (try clear hi); obtain ⟨i035, hi035, _, hsz35, _⟩ := info_parts info9; obtain ⟨A35, hcut35, hA35, hC35⟩ := print_mid_of (P := Try.prog) Value.string (⟨#[]⟩ : ByteArray) 30 9 .i64 .i64 Try.underlying30 hi035 hsz35 (some ad132) c0 l0 x25_1 (wrap64 (x25_1 + 1)) (of_decide_eq_true (by first | (with_reducible assumption) | assumption)) (by first | omega | exact of_decide_eq_true (by first | (with_reducible assumption) | assumption)) (of_decide_eq_true (by first | (with_reducible assumption) | assumption)) HC0.out; have HR139 := Aside0.mk (Kd.C_of_reads (h1 := fun _ => rfl) (hA35 _ (Kd.reads_of_C HR0.out))); have HC139 := Aside0.mk hC35; clear hA35 hC35 hi035 hsz35) | (go_at_call 23; (rw [← show ((l0.take ((wrap64 (x25_1 + 1)) : Int).toNat).drop (x25_1 : Int).toNat).length = ((wrap64 (x25_1 + 1)).toNat - x25_1.toNat) from (by rw [List.length_drop, List.length_take]; have h_ : ((wrap64 (x25_1 + 1)) : Int) ≤ (l0.length : Int) := of_decide_eq_true (by first | (with_reducible assumption) | assumption); omega)]); (with_reducible refine (spec_PathOf.calls k1 _ _ ((l0.take ((wrap64 (x25_1 + 1)) : Int).toNat).drop (x25_1 : Int).toNat) t140 _ ?side1 ?side2 A18.out).mono ?_); (case side1 => repeat (first | exact (Kd.C_below HR139.out HB.out) | (with_reducible refine Kd.C_alloc ?_ _) | (with_reducible refine Kd.C_drewN ?_ _) | (with_reducible refine Kd.C_drew ?_))); (case side2 => exact HC139.out); rintro e w36 ⟨rfl, hb⟩; have n0_ := Aside0.mk (below_step (by repeat (first | (with_reducible first | exact HB.out | apply below_alloc | apply pw_below_drewN | apply below_drew1) | exact HB.out)) hb); clear HB; have HB := n0_; clear n0_; (try clear hb); (try clear hb2); (try clear hk); (try clear hi)))
             go_ret
             exact ⟨by first | rfl | (simp [errW_none, errW_some] <;> rfl) | (simp [*, errW_none, errW_some] <;> rfl), by repeat (first | (with_reducible first | exact HB.out | apply below_alloc | apply pw_below_drewN | apply below_drew1) | exact HB.out)⟩
           ·
            rw [if_neg c17] at H
            exact absurd H (by simp)
          ·
           rw [if_neg c16] at H
           exact absurd H (by simp)
         ·
          rw [if_neg c14] at H
          have c14b0 : (t133.toList == (rdOf ByteArray.empty l0 x25_1).toList) = false := beq_eq_false_iff_ne.mpr c14
          have c14b1 : (t133.toList != (rdOf ByteArray.empty l0 x25_1).toList) = true := bne_iff_ne.mpr c14
          obtain rfl := Option.some.inj H
          have p132 : 0 ≤ (x25_1 : Int) := of_decide_eq_true (by first | (with_reducible assumption) | assumption)
          have q132 : x25_1 < (l0.length : Int) := of_decide_eq_true (by first | (with_reducible assumption) | assumption)
          obtain ⟨ad132, e132, hx132_0⟩ := Kd.at_string HR0.out x25_1 p132 q132
          cases e132
          replace hx132_0 := (HB.out.cell (World.block_lt_of_cell? w _ hx132_0)).trans hx132_0
          replace p132 := eq_true p132
          replace q132 := eq_true q132
          go_wp2_with (first | ((with_reducible refine gate_callee (f := 22) rfl ?_); refine goesL_ (some 32) rfl rfl Try.func22 (by kernel_rfl) rfl #[.string x5_1] rfl (by (try simp only [List.map_toArray, List.map_cons, List.map_nil]); first | done | rfl | (simp only [List.length_drop, List.length_take]; rfl)) ?_; (with_reducible refine (impl_SjPath.calls x5_1 t133 t134 t135 t136 t137 true _ A12.out).mono ?_); rintro e w37 ⟨rfl, hb⟩; refine ⟨_, rfl, ?_⟩; have n0_ := Aside0.mk (below_step (by repeat (first | (with_reducible first | exact HB.out | apply below_alloc | apply pw_below_drewN | apply below_drew1) | exact HB.out)) hb); clear HB; have HB := n0_; clear n0_; (try clear hb); (try clear hb2); (try clear hk); (try clear hi)))
          go_ret
          exact ⟨by first | rfl | (simp [errW_none, errW_some] <;> rfl) | (simp [*, errW_none, errW_some] <;> rfl), by repeat (first | (with_reducible first | exact HB.out | apply below_alloc | apply pw_below_drewN | apply below_drew1) | exact HB.out)⟩
        ·
         replace c13 := Bool.eq_false_iff.mpr c13
         subst c13
         have H1 : (some false) = some r := by rw [if_neg (show ¬ (false = true) by decide)] at H; exact H
         clear H
         have H := H1
         clear H1
         obtain rfl := Option.some.inj H
         have p132 : 0 ≤ (x25_1 : Int) := of_decide_eq_true (by first | (with_reducible assumption) | assumption)
         have q132 : x25_1 < (l0.length : Int) := of_decide_eq_true (by first | (with_reducible assumption) | assumption)
         obtain ⟨ad132, e132, hx132_0⟩ := Kd.at_string HR0.out x25_1 p132 q132
         cases e132
         replace hx132_0 := (HB.out.cell (World.block_lt_of_cell? w _ hx132_0)).trans hx132_0
         replace p132 := eq_true p132
         replace q132 := eq_true q132
         go_wp2_with (first | ((with_reducible refine gate_callee (f := 22) rfl ?_); refine goesL_ (some 32) rfl rfl Try.func22 (by kernel_rfl) rfl #[.string x5_1] rfl (by (try simp only [List.map_toArray, List.map_cons, List.map_nil]); first | done | rfl | (simp only [List.length_drop, List.length_take]; rfl)) ?_; (with_reducible refine (impl_SjPath.calls x5_1 t133 t134 t135 t136 t137 false _ A12.out).mono ?_); rintro e w38 ⟨rfl, hb⟩; refine ⟨_, rfl, ?_⟩; have n0_ := Aside0.mk (below_step (by repeat (first | (with_reducible first | exact HB.out | apply below_alloc | apply pw_below_drewN | apply below_drew1) | exact HB.out)) hb); clear HB; have HB := n0_; clear n0_; (try clear hb); (try clear hb2); (try clear hk); (try clear hi)))
         go_ret
         exact ⟨by first | rfl | (simp [errW_none, errW_some] <;> rfl) | (simp [*, errW_none, errW_some] <;> rfl), by repeat (first | (with_reducible first | exact HB.out | apply below_alloc | apply pw_below_drewN | apply below_drew1) | exact HB.out)⟩
       ·
        rw [if_neg c11] at H
        exact absurd H (by simp)
      ·
       rw [if_neg c10] at H
       exact absurd H (by simp)
     ·
      rw [if_neg c9] at H
      have c9b0 : decide (x25_1 < (l0.length : Int)) = false := decide_eq_false c9
      clear c9
      obtain rfl := Option.some.inj H
      go_wp2
      go_ret
      exact ⟨by first | rfl | (simp [errW_none, errW_some] <;> rfl) | (simp [*, errW_none, errW_some] <;> rfl), by repeat (first | (with_reducible first | exact HB.out | apply below_alloc | apply pw_below_drewN | apply below_drew1) | exact HB.out)⟩
  ·
   replace c6 := Bool.eq_false_iff.mpr c6
   subst c6
   have H1 : (some true) = some r := by rw [if_neg (show ¬ (false = true) by decide)] at H; exact H
   clear H
   have H := H1
   clear H1
   obtain rfl := Option.some.inj H
   go_enter Try.func7, Try.ntmps7
   go_wp2_with (first | ((with_reducible refine gate_callee (f := 19) rfl ?_); refine goesL_ (some 15) rfl rfl Try.func19 (by kernel_rfl) rfl #[.slice A0 l0.length c0] rfl (by (try simp only [List.map_toArray, List.map_cons, List.map_nil]); first | done | rfl | (simp only [List.length_drop, List.length_take]; rfl)) ?_; (with_reducible refine (laws_zzFits1.calls k _ _ l0 true _ ?side1 ?side2 A3.out).mono ?_); (case side1 => repeat (first | exact HR0.out | (with_reducible refine Kd.C_alloc ?_ _) | (with_reducible refine Kd.C_drewN ?_ _) | (with_reducible refine Kd.C_drew ?_))); (case side2 => exact HC0.out); rintro e w' ⟨rfl, ⟨nd, rfl⟩⟩; refine ⟨_, rfl, ?_⟩) | ((with_reducible refine gate_callee (f := 20) rfl ?_); refine goesL_ (some 18) rfl rfl Try.func20 (by kernel_rfl) rfl #[.slice A0 l0.length c0] rfl (by (try simp only [List.map_toArray, List.map_cons, List.map_nil]); first | done | rfl | (simp only [List.length_drop, List.length_take]; rfl)) ?_; (with_reducible refine (laws_sjKeys.calls k _ _ l0 false _ ?side1 ?side2 A5.out).mono ?_); (case side1 => repeat (first | exact HR0.out | (with_reducible refine Kd.C_alloc ?_ _) | (with_reducible refine Kd.C_drewN ?_ _) | (with_reducible refine Kd.C_drew ?_))); (case side2 => exact HC0.out); rintro e w' ⟨rfl, ⟨nd, rfl⟩⟩; refine ⟨_, rfl, ?_⟩))
   go_ret
   exact ⟨by first | rfl | (simp [errW_none, errW_some] <;> rfl) | (simp [*, errW_none, errW_some] <;> rfl), by repeat (first | (with_reducible first | exact HB.out | apply below_alloc | apply pw_below_drewN | apply below_drew1) | exact HB.out)⟩
 ·
  replace c4 := Bool.eq_false_iff.mpr c4
  subst c4
  have H1 : (some true) = some r := by rw [if_neg (show ¬ (false = true) by decide)] at H; exact H
  clear H
  have H := H1
  clear H1
  obtain rfl := Option.some.inj H
  go_enter Try.func7, Try.ntmps7
  go_wp2_with (first | ((with_reducible refine gate_callee (f := 19) rfl ?_); refine goesL_ (some 15) rfl rfl Try.func19 (by kernel_rfl) rfl #[.slice A0 l0.length c0] rfl (by (try simp only [List.map_toArray, List.map_cons, List.map_nil]); first | done | rfl | (simp only [List.length_drop, List.length_take]; rfl)) ?_; (with_reducible refine (laws_zzFits1.calls k _ _ l0 false _ ?side1 ?side2 A3.out).mono ?_); (case side1 => repeat (first | exact HR0.out | (with_reducible refine Kd.C_alloc ?_ _) | (with_reducible refine Kd.C_drewN ?_ _) | (with_reducible refine Kd.C_drew ?_))); (case side2 => exact HC0.out); rintro e w' ⟨rfl, ⟨nd, rfl⟩⟩; refine ⟨_, rfl, ?_⟩))
  go_ret
  exact ⟨by first | rfl | (simp [errW_none, errW_some] <;> rfl) | (simp [*, errW_none, errW_some] <;> rfl), by repeat (first | (with_reducible first | exact HB.out | apply below_alloc | apply pw_below_drewN | apply below_drew1) | exact HB.out)⟩

end Go.Proofs.Ytifcmhekpbfboaa.MFnSjPathOften
