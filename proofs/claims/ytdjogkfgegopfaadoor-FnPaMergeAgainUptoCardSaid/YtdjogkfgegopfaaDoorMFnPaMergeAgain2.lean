/- What Go functions compute, as functions of numbers and lists, and the walks that show it. No condition. Written by a program (wip/tools/mprint.py) over the kit's print. -/
import Derived.Test.YtdjogkfgegopfaaDoorMFnPaMergeAgain0
import Derived.Test.YtdjogkfgegopfaaDoorPn0
namespace Go.Proofs.YtdjogkfgegopfaaDoor.MFnPaMergeAgain
open Go.RowKit Go.Proofs.YtdjogkfgegopfaaDoorW.PrintWords Go.Proofs.YtdjogkfgegopfaaDoorW.PrintLast Go.Proofs.YtdjogkfgegopfaaDoorW.PrintMore
attribute [local go_sem] max2_int min2_int max_two min_two max_three min_three max_four min_four   -- for this text's walks alone
set_option linter.unusedVariables false
set_option linter.unusedSimpArgs false

/-! ### spec_Tidy: function 25 -/
mutual
def spec_Tidy.j1 : Nat → Bool → Int → ByteArray → List ByteArray → List (S25) → Option (Bool)
 | 0, _, _, _, _, _ => none
 | k + 1, x3, x105000, x105001, x105002, x105003 => spec_Tidy.l0 k x3 0 x105000 x105001 x105002 x105003
def spec_Tidy.l0 : Nat → Bool → Int → Int → ByteArray → List ByteArray → List (S25) → Option (Bool)
 | 0, _, _, _, _, _, _ => none
 | k + 1, x3, x4, x105000, x105001, x105002, x105003 => if x3 = true then (if x4 < (x105003.length : Int) then (if 0 ≤ x4 then ((spec_Tidy.f k ((rd_T25 x105003 x4).f0) ((rd_T25 x105003 x4).f1) ((rd_T25 x105003 x4).f2) ((rd_T25 x105003 x4).f3)).bind fun t107 => (spec_Tidy.l0 k t107 (wrap64 (x4 + 1)) x105000 x105001 x105002 x105003)) else (none)) else (some x3)) else (some x3)
def spec_Tidy.j0 : Nat → Int → Bool → Int → ByteArray → List ByteArray → List (S25) → Option (Bool)
 | 0, _, _, _, _, _, _ => none
 | k + 1, x6, x7, x105000, x105001, x105002, x105003 => if x7 = true then (if x105001.toList = ([] : List UInt8) then (if (x105002.length : Int) = 0 then (spec_Tidy.j1 k ((x105003.length : Int) == 0) x105000 x105001 x105002 x105003) else (spec_Tidy.j1 k false x105000 x105001 x105002 x105003)) else (spec_Tidy.j1 k false x105000 x105001 x105002 x105003)) else (if x6 = 3 then ((spec_IsNumber.f k x105001).bind fun t105 => (if t105 = true then (if (x105002.length : Int) = 0 then (spec_Tidy.j1 k ((x105003.length : Int) == 0) x105000 x105001 x105002 x105003) else (spec_Tidy.j1 k false x105000 x105001 x105002 x105003)) else (spec_Tidy.j1 k false x105000 x105001 x105002 x105003))) else (if x6 = 4 then (if (x105002.length : Int) = 0 then (spec_Tidy.j1 k ((x105003.length : Int) == 0) x105000 x105001 x105002 x105003) else (spec_Tidy.j1 k false x105000 x105001 x105002 x105003)) else (if x6 = 5 then (if x105001.toList = ([] : List UInt8) then (spec_Tidy.j1 k ((x105002.length : Int) == 0) x105000 x105001 x105002 x105003) else (spec_Tidy.j1 k false x105000 x105001 x105002 x105003)) else (if x6 = 6 then (if x105001.toList = ([] : List UInt8) then (spec_Tidy.j1 k ((x105002.length : Int) == (x105003.length : Int)) x105000 x105001 x105002 x105003) else (spec_Tidy.j1 k false x105000 x105001 x105002 x105003)) else (spec_Tidy.j1 k false x105000 x105001 x105002 x105003)))))
def spec_Tidy.f : Nat → Int → ByteArray → List ByteArray → List (S25) → Option (Bool)
 | 0, _, _, _, _ => none
 | k + 1, a0_0, a0_1, l0_2, l0_3 => if a0_0 = 0 then (spec_Tidy.j0 k a0_0 (a0_0 == 0) a0_0 a0_1 l0_2 l0_3) else (if a0_0 = 1 then (spec_Tidy.j0 k a0_0 (a0_0 == 1) a0_0 a0_1 l0_2 l0_3) else (spec_Tidy.j0 k a0_0 (a0_0 == 2) a0_0 a0_1 l0_2 l0_3))
end
theorem spec_Tidy.mono_l : ∀ k, (∀ y0 y1 y2 y3, LeO (spec_Tidy.f k y0 y1 y2 y3) (spec_Tidy.f (k + 1) y0 y1 y2 y3)) ∧ (∀ y0 y1 y2 y3 y4, LeO (spec_Tidy.j1 k y0 y1 y2 y3 y4) (spec_Tidy.j1 (k + 1) y0 y1 y2 y3 y4)) ∧ (∀ y0 y1 y2 y3 y4 y5, LeO (spec_Tidy.l0 k y0 y1 y2 y3 y4 y5) (spec_Tidy.l0 (k + 1) y0 y1 y2 y3 y4 y5)) ∧ (∀ y0 y1 y2 y3 y4 y5, LeO (spec_Tidy.j0 k y0 y1 y2 y3 y4 y5) (spec_Tidy.j0 (k + 1) y0 y1 y2 y3 y4 y5))
 | 0 => ⟨fun _ _ _ _ r h => by simp [spec_Tidy.f] at h, fun _ _ _ _ _ r h => by simp [spec_Tidy.j1] at h, fun _ _ _ _ _ _ r h => by simp [spec_Tidy.l0] at h, fun _ _ _ _ _ _ r h => by simp [spec_Tidy.j0] at h⟩
 | k + 1 => by
  obtain ⟨ih0, ih1, ih2, ih3⟩ := spec_Tidy.mono_l k
  refine ⟨?_, ?_, ?_, ?_⟩
  ·
   intro y0 y1 y2 y3
   unfold spec_Tidy.f
   repeat' first
   | (with_reducible exact ih0 _ _ _ _)
   | (with_reducible exact ih1 _ _ _ _ _)
   | (with_reducible exact ih2 _ _ _ _ _ _)
   | (with_reducible exact ih3 _ _ _ _ _ _)
   | (with_reducible exact spec_IsNumber.mono _ _)
   | (with_reducible exact LeO.refl _)
   | (with_reducible exact LeO.none _)
   | (with_reducible refine LeO.ite ?_ ?_)
   | (with_reducible refine LeO.bind ?_ (fun _ => ?_))
   | exact ih0 _ _ _ _
   | exact ih1 _ _ _ _ _
   | exact ih2 _ _ _ _ _ _
   | exact ih3 _ _ _ _ _ _
   | exact spec_IsNumber.mono _ _
   | exact LeO.none _
   | refine LeO.ite ?_ ?_
   | refine LeO.bind ?_ (fun _ => ?_)
  ·
   intro y0 y1 y2 y3 y4
   unfold spec_Tidy.j1
   repeat' first
   | (with_reducible exact ih0 _ _ _ _)
   | (with_reducible exact ih1 _ _ _ _ _)
   | (with_reducible exact ih2 _ _ _ _ _ _)
   | (with_reducible exact ih3 _ _ _ _ _ _)
   | (with_reducible exact spec_IsNumber.mono _ _)
   | (with_reducible exact LeO.refl _)
   | (with_reducible exact LeO.none _)
   | (with_reducible refine LeO.ite ?_ ?_)
   | (with_reducible refine LeO.bind ?_ (fun _ => ?_))
   | exact ih0 _ _ _ _
   | exact ih1 _ _ _ _ _
   | exact ih2 _ _ _ _ _ _
   | exact ih3 _ _ _ _ _ _
   | exact spec_IsNumber.mono _ _
   | exact LeO.none _
   | refine LeO.ite ?_ ?_
   | refine LeO.bind ?_ (fun _ => ?_)
  ·
   intro y0 y1 y2 y3 y4 y5
   unfold spec_Tidy.l0
   repeat' first
   | (with_reducible exact ih0 _ _ _ _)
   | (with_reducible exact ih1 _ _ _ _ _)
   | (with_reducible exact ih2 _ _ _ _ _ _)
   | (with_reducible exact ih3 _ _ _ _ _ _)
   | (with_reducible exact spec_IsNumber.mono _ _)
   | (with_reducible exact LeO.refl _)
   | (with_reducible exact LeO.none _)
   | (with_reducible refine LeO.ite ?_ ?_)
   | (with_reducible refine LeO.bind ?_ (fun _ => ?_))
   | exact ih0 _ _ _ _
   | exact ih1 _ _ _ _ _
   | exact ih2 _ _ _ _ _ _
   | exact ih3 _ _ _ _ _ _
   | exact spec_IsNumber.mono _ _
   | exact LeO.none _
   | refine LeO.ite ?_ ?_
   | refine LeO.bind ?_ (fun _ => ?_)
  ·
   intro y0 y1 y2 y3 y4 y5
   unfold spec_Tidy.j0
   repeat' first
   | (with_reducible exact ih0 _ _ _ _)
   | (with_reducible exact ih1 _ _ _ _ _)
   | (with_reducible exact ih2 _ _ _ _ _ _)
   | (with_reducible exact ih3 _ _ _ _ _ _)
   | (with_reducible exact spec_IsNumber.mono _ _)
   | (with_reducible exact LeO.refl _)
   | (with_reducible exact LeO.none _)
   | (with_reducible refine LeO.ite ?_ ?_)
   | (with_reducible refine LeO.bind ?_ (fun _ => ?_))
   | exact ih0 _ _ _ _
   | exact ih1 _ _ _ _ _
   | exact ih2 _ _ _ _ _ _
   | exact ih3 _ _ _ _ _ _
   | exact spec_IsNumber.mono _ _
   | exact LeO.none _
   | refine LeO.ite ?_ ?_
   | refine LeO.bind ?_ (fun _ => ?_)
theorem spec_Tidy.mono : ∀ a0 a1 a2 a3 k, LeO (spec_Tidy.f k a0 a1 a2 a3) (spec_Tidy.f (k + 1) a0 a1 a2 a3) := by
 intro a0 a1 a2 a3 k
 obtain ⟨ih0, ih1, ih2, ih3⟩ := spec_Tidy.mono_l k
 exact ih0 a0 a1 a2 a3
set_option maxHeartbeats 8000000 in
set_option maxRecDepth 100000 in
theorem spec_Tidy.calls (k : Nat) : ∀ (a0_0 : Int) (a0_1 : ByteArray) (A0_2 : Option Addr) (c0_2 : Nat) (l0_2 : List ByteArray) (A0_3 : Option Addr) (c0_3 : Nat) (l0_3 : List (S25)) (r : Bool) (w : World) (hr0_2 : Kd.C Kd.string w A0_2 l0_2.length l0_2) (hc0_2 : l0_2.length ≤ c0_2) (hr0_3 : Kd.C k25 w A0_3 l0_3.length l0_3) (hc0_3 : l0_3.length ≤ c0_3) (h : spec_Tidy.f k a0_0 a0_1 l0_2 l0_3 = some r),
  Calls Tryd.prog 25 #[.agg #[.int .i64 a0_0, .string a0_1, .slice A0_2 l0_2.length c0_2, .slice A0_3 l0_3.length c0_3]] w fun e w' => e = .returned (.bool r) ∧ Below w.heap.size w w' := by
 induction k using Nat.strongRecOn with
 | _ k ih =>
 intro a0_0 a0_1 A0_2 c0_2 l0_2 A0_3 c0_3 l0_3 r w hr0_2 hc0_2 hr0_3 hc0_3 h
 cases k with
 | zero => exact absurd h (by simp [spec_Tidy.f])
 | succ k =>
 simp only [spec_Tidy.f] at h
 have hu25 := Tryd.underlying25
 have HR0_2 := Aside0.mk hr0_2
 have HC0_2 := Aside0.mk hc0_2
 clear hr0_2 hc0_2
 have HR0_3 := Aside0.mk hr0_3
 have HC0_3 := Aside0.mk hc0_3
 clear hr0_3 hc0_3
 have HB := Aside0.mk (Below.refl w.heap.size w)
 have H : (if a0_0 = 0 then (spec_Tidy.j0 k a0_0 (a0_0 == 0) a0_0 a0_1 l0_2 l0_3) else (if a0_0 = 1 then (spec_Tidy.j0 k a0_0 (a0_0 == 1) a0_0 a0_1 l0_2 l0_3) else (spec_Tidy.j0 k a0_0 (a0_0 == 2) a0_0 a0_1 l0_2 l0_3))) = some r := h
 clear h
 have HC2 := Aside0.mk H
 clear H
 go_enter Tryd.func25, Tryd.ntmps25
 go_upto_block 0 with (first | ((with_reducible refine gate_dst (N := 1) rfl ?_); (try (refine gate_guard (by rfl) ?_; dsimp only)); refine box_event ?hg (N := 1) ?hd (cs := #[.int .i64 a0_0, .string a0_1, .slice A0_2 l0_2.length c0_2, .slice A0_3 l0_3.length c0_3]) (t := 25) ?hr ?_; (case hd => rfl); (case hg => rfl); (case hr => first | (go_simp; done) | (go_simp; rfl)); intro gb104 hg w3 hbox hb; have n0_ := Aside0.mk (below_step (by repeat (first | (with_reducible first | exact HB.out | apply below_alloc | apply pw_below_drewN | apply below_drew1) | exact HB.out)) hb); have n1_ := Aside0.mk (hbox); have n2_ := Aside0.mk ((by rw [hg]; exact (below_size (by repeat (first | (with_reducible first | exact HB.out | apply below_alloc | apply pw_below_drewN | apply below_drew1) | exact HB.out))) : w.heap.size ≤ gb104)); have n3_ := Aside0.mk ((by rw [hg]; exact (below_size (by repeat (first | (with_reducible first | exact HB.out | apply below_alloc | apply pw_below_drewN | apply below_drew1) | exact HB.out))) : w.heap.size ≤ gb104)); clear HB; have HB := n0_; have BK104 := n1_; have GW104 := n2_; have GE104 := n3_; clear n0_ n1_ n2_ n3_; clear hb hbox hg; have hcz4_0 : w3.cell? ⟨gb104, 0, none⟩ = some (.int .i64 a0_0) := (blk_cell BK104.out 0).trans rfl; have hcz4_1 : w3.cell? ⟨gb104, 1, none⟩ = some (.string a0_1) := (blk_cell BK104.out 1).trans rfl; have hcz4_2 : w3.cell? ⟨gb104, 2, none⟩ = some (.slice A0_2 l0_2.length c0_2) := (blk_cell BK104.out 2).trans rfl; have hcz4_3 : w3.cell? ⟨gb104, 3, none⟩ = some (.slice A0_3 l0_3.length c0_3) := (blk_cell BK104.out 3).trans rfl; have hfz4_0 := blk_frozen BK104.out 0; have hfz4_1 := blk_frozen BK104.out 1; have hfz4_2 := blk_frozen BK104.out 2; have hfz4_3 := blk_frozen BK104.out 3))
 (try simp only [Act.put, List.setIfInBounds_toArray, List.set_cons_zero, List.set_cons_succ])
 go_cut [3] (fun v3 wc => ∃ (kq : Nat) (x3_1 : Bool), v3 = .bool x3_1 ∧ Aside0 (spec_Tidy.j1 kq x3_1 a0_0 a0_1 l0_2 l0_3 = some r) ∧ Aside0 (kq ≤ k) ∧ Aside0 (wc.heap[gb104]? = some (.cells #[.int .i64 a0_0, .string a0_1, (.slice A0_2 l0_2.length c0_2), (.slice A0_3 l0_3.length c0_3)] 25 (0, 0))) ∧ Aside0 (Below w.heap.size w wc))
 case first =>
  have H := HC2.out
  clear HC2
  have HC5 := Aside0.mk H
  clear H
  go_upto_if 7 with (fail)
  go_cut [7] (fun v7 wc => ∃ (kq : Nat) (x7_4 : Bool), v7 = .bool x7_4 ∧ Aside0 (spec_Tidy.j0 kq a0_0 x7_4 a0_0 a0_1 l0_2 l0_3 = some r) ∧ Aside0 (kq ≤ k) ∧ Aside0 (wc.heap[gb104]? = some (.cells #[.int .i64 a0_0, .string a0_1, (.slice A0_2 l0_2.length c0_2), (.slice A0_3 l0_3.length c0_3)] 25 (0, 0))) ∧ Aside0 (Below w.heap.size w wc))
  case first =>
   have H := HC5.out
   clear HC5
   by_cases c6 : a0_0 = 0
   ·
    rw [if_pos c6] at H
    have c6b0 : (a0_0 == 0) = true := beq_iff_eq.mpr c6
    have c6b1 : (a0_0 != 0) = false := bne_eq_false_iff_eq.mpr c6
    clear c6
    (first | rw [c6b0] | (simp only [i64_w, i32_w]; rw [c6b0]) | skip)
    have H' := Aside0.mk H
    clear H
    go_wp2
    go_meet
    case rel => exact ⟨_, ((a0_0 == 0)), (by first | rfl | (simp; done) | (simp [*]; done) | (simp; rw [Bool.eq_iff_iff]; simp; done)), H', ⟨by first | omega | exact Nat.le_refl _⟩, ⟨by (with_reducible repeat (first | refine blk_drewN ?_ _ | refine blk_drew ?_ | refine blk_alloc ?_ _)); exact BK104.out⟩, ⟨by repeat (first | (with_reducible first | exact HB.out | apply below_alloc | apply pw_below_drewN | apply below_drew1 | refine below_set ?_ GE104.out) | exact HB.out)⟩⟩
   ·
    rw [if_neg c6] at H
    have c6b0 : (a0_0 == 0) = false := beq_eq_false_iff_ne.mpr c6
    have c6b1 : (a0_0 != 0) = true := bne_iff_ne.mpr c6
    (first | rw [c6b0] | (simp only [i64_w, i32_w]; rw [c6b0]) | skip)
    by_cases c7 : a0_0 = 1
    ·
     rw [if_pos c7] at H
     have c7b0 : (a0_0 == 1) = true := beq_iff_eq.mpr c7
     have c7b1 : (a0_0 != 1) = false := bne_eq_false_iff_eq.mpr c7
     clear c7
     have H' := Aside0.mk H
     clear H
     go_wp2
     go_meet
     case rel => exact ⟨_, ((a0_0 == 1)), (by first | rfl | (simp; done) | (simp [*]; done) | (simp; rw [Bool.eq_iff_iff]; simp; done)), H', ⟨by first | omega | exact Nat.le_refl _⟩, ⟨by (with_reducible repeat (first | refine blk_drewN ?_ _ | refine blk_drew ?_ | refine blk_alloc ?_ _)); exact BK104.out⟩, ⟨by repeat (first | (with_reducible first | exact HB.out | apply below_alloc | apply pw_below_drewN | apply below_drew1 | refine below_set ?_ GE104.out) | exact HB.out)⟩⟩
    ·
     rw [if_neg c7] at H
     have c7b0 : (a0_0 == 1) = false := beq_eq_false_iff_ne.mpr c7
     have c7b1 : (a0_0 != 1) = true := bne_iff_ne.mpr c7
     have H' := Aside0.mk H
     clear H
     go_wp2
     go_meet
     case rel => exact ⟨_, ((a0_0 == 2)), (by first | rfl | (simp; done) | (simp [*]; done) | (simp; rw [Bool.eq_iff_iff]; simp; done)), H', ⟨by first | omega | exact Nat.le_refl _⟩, ⟨by (with_reducible repeat (first | refine blk_drewN ?_ _ | refine blk_drew ?_ | refine blk_alloc ?_ _)); exact BK104.out⟩, ⟨by repeat (first | (with_reducible first | exact HB.out | apply below_alloc | apply pw_below_drewN | apply below_drew1 | refine below_set ?_ GE104.out) | exact HB.out)⟩⟩
  case rest =>
   clear HC5
   (try clear c2); (try clear p2); (try clear c6); (try clear c6b0); (try clear c6b1); (try clear c7); (try clear c7b0); (try clear c7b1); (try clear hcz4_0); (try clear hcz4_1); (try clear hcz4_2); (try clear hcz4_3); (try clear hfz4_0); (try clear hfz4_1); (try clear hfz4_2); (try clear hfz4_3)
   obtain ⟨kq, x7_4, rfl, HA, HJ4, BK104, HB⟩ := hcut
   cases kq with
   | zero => exact absurd HA.out (by simp [spec_Tidy.j0])
   | succ kj4 =>
    have H := HA.out
    clear HA
    simp only [spec_Tidy.j0] at H
    by_cases c8 : x7_4 = true
    ·
     subst c8
     have H1 : (if a0_1.toList = ([] : List UInt8) then (if (l0_2.length : Int) = 0 then (spec_Tidy.j1 kj4 ((l0_3.length : Int) == 0) a0_0 a0_1 l0_2 l0_3) else (spec_Tidy.j1 kj4 false a0_0 a0_1 l0_2 l0_3)) else (spec_Tidy.j1 kj4 false a0_0 a0_1 l0_2 l0_3)) = some r := by rw [if_pos rfl] at H; exact H
     clear H
     have H := H1
     clear H1
     by_cases c9 : a0_1.toList = ([] : List UInt8)
     ·
      rw [if_pos c9] at H
      have c9b0 : (a0_1.toList == ([] : List UInt8)) = true := beq_iff_eq.mpr c9
      have c9b1 : (a0_1.toList != ([] : List UInt8)) = false := bne_eq_false_iff_eq.mpr c9
      clear c9
      by_cases c10 : (l0_2.length : Int) = 0
      ·
       rw [if_pos c10] at H
       have c10b0 : ((l0_2.length : Int) == 0) = true := beq_iff_eq.mpr c10
       have c10b1 : ((l0_2.length : Int) != 0) = false := bne_eq_false_iff_eq.mpr c10
       clear c10
       have H' := Aside0.mk H
       clear H
       have hcz11_0 : wc.cell? ⟨gb104, 0, none⟩ = some (.int .i64 a0_0) := (blk_cell BK104.out 0).trans rfl
       have hcz11_1 : wc.cell? ⟨gb104, 1, none⟩ = some (.string a0_1) := (blk_cell BK104.out 1).trans rfl
       have hcz11_2 : wc.cell? ⟨gb104, 2, none⟩ = some (.slice A0_2 l0_2.length c0_2) := (blk_cell BK104.out 2).trans rfl
       have hcz11_3 : wc.cell? ⟨gb104, 3, none⟩ = some (.slice A0_3 l0_3.length c0_3) := (blk_cell BK104.out 3).trans rfl
       have hfz11_0 := blk_frozen BK104.out 0
       have hfz11_1 := blk_frozen BK104.out 1
       have hfz11_2 := blk_frozen BK104.out 2
       have hfz11_3 := blk_frozen BK104.out 3
       go_wp2
       go_meet
       case rel => exact ⟨_, (((l0_3.length : Int) == 0)), (by first | rfl | (simp; done) | (simp [*]; done) | (simp; rw [Bool.eq_iff_iff]; simp; done)), H', ⟨by have := HJ4.out; first | omega | exact Nat.le_refl _⟩, ⟨by (with_reducible repeat (first | refine blk_drewN ?_ _ | refine blk_drew ?_ | refine blk_alloc ?_ _)); exact BK104.out⟩, ⟨by repeat (first | (with_reducible first | exact HB.out | apply below_alloc | apply pw_below_drewN | apply below_drew1 | refine below_set ?_ GE104.out) | exact HB.out)⟩⟩
      ·
       rw [if_neg c10] at H
       have c10b0 : ((l0_2.length : Int) == 0) = false := beq_eq_false_iff_ne.mpr c10
       have c10b1 : ((l0_2.length : Int) != 0) = true := bne_iff_ne.mpr c10
       have c10b2 : ¬ (l0_2 = []) := fun h_ => c10 (by rw [h_]; rfl)
       have H' := Aside0.mk H
       clear H
       have hcz12_0 : wc.cell? ⟨gb104, 0, none⟩ = some (.int .i64 a0_0) := (blk_cell BK104.out 0).trans rfl
       have hcz12_1 : wc.cell? ⟨gb104, 1, none⟩ = some (.string a0_1) := (blk_cell BK104.out 1).trans rfl
       have hcz12_2 : wc.cell? ⟨gb104, 2, none⟩ = some (.slice A0_2 l0_2.length c0_2) := (blk_cell BK104.out 2).trans rfl
       have hcz12_3 : wc.cell? ⟨gb104, 3, none⟩ = some (.slice A0_3 l0_3.length c0_3) := (blk_cell BK104.out 3).trans rfl
       have hfz12_0 := blk_frozen BK104.out 0
       have hfz12_1 := blk_frozen BK104.out 1
       have hfz12_2 := blk_frozen BK104.out 2
       have hfz12_3 := blk_frozen BK104.out 3
       go_wp2
       go_meet
       case rel => exact ⟨_, (false), (by first | rfl | (simp; done) | (simp [*]; done) | (simp; rw [Bool.eq_iff_iff]; simp; done)), H', ⟨by have := HJ4.out; first | omega | exact Nat.le_refl _⟩, ⟨by (with_reducible repeat (first | refine blk_drewN ?_ _ | refine blk_drew ?_ | refine blk_alloc ?_ _)); exact BK104.out⟩, ⟨by repeat (first | (with_reducible first | exact HB.out | apply below_alloc | apply pw_below_drewN | apply below_drew1 | refine below_set ?_ GE104.out) | exact HB.out)⟩⟩
     ·
      rw [if_neg c9] at H
      have c9b0 : (a0_1.toList == ([] : List UInt8)) = false := beq_eq_false_iff_ne.mpr c9
      have c9b1 : (a0_1.toList != ([] : List UInt8)) = true := bne_iff_ne.mpr c9
      have H' := Aside0.mk H
      clear H
      have hcz13_0 : wc.cell? ⟨gb104, 0, none⟩ = some (.int .i64 a0_0) := (blk_cell BK104.out 0).trans rfl
      have hcz13_1 : wc.cell? ⟨gb104, 1, none⟩ = some (.string a0_1) := (blk_cell BK104.out 1).trans rfl
      have hcz13_2 : wc.cell? ⟨gb104, 2, none⟩ = some (.slice A0_2 l0_2.length c0_2) := (blk_cell BK104.out 2).trans rfl
      have hcz13_3 : wc.cell? ⟨gb104, 3, none⟩ = some (.slice A0_3 l0_3.length c0_3) := (blk_cell BK104.out 3).trans rfl
      have hfz13_0 := blk_frozen BK104.out 0
      have hfz13_1 := blk_frozen BK104.out 1
      have hfz13_2 := blk_frozen BK104.out 2
      have hfz13_3 := blk_frozen BK104.out 3
      go_wp2
      go_meet
      case rel => exact ⟨_, (false), (by first | rfl | (simp; done) | (simp [*]; done) | (simp; rw [Bool.eq_iff_iff]; simp; done)), H', ⟨by have := HJ4.out; first | omega | exact Nat.le_refl _⟩, ⟨by (with_reducible repeat (first | refine blk_drewN ?_ _ | refine blk_drew ?_ | refine blk_alloc ?_ _)); exact BK104.out⟩, ⟨by repeat (first | (with_reducible first | exact HB.out | apply below_alloc | apply pw_below_drewN | apply below_drew1 | refine below_set ?_ GE104.out) | exact HB.out)⟩⟩
    ·
     replace c8 := Bool.eq_false_iff.mpr c8
     subst c8
     have H1 : (if a0_0 = 3 then ((spec_IsNumber.f kj4 a0_1).bind fun t105 => (if t105 = true then (if (l0_2.length : Int) = 0 then (spec_Tidy.j1 kj4 ((l0_3.length : Int) == 0) a0_0 a0_1 l0_2 l0_3) else (spec_Tidy.j1 kj4 false a0_0 a0_1 l0_2 l0_3)) else (spec_Tidy.j1 kj4 false a0_0 a0_1 l0_2 l0_3))) else (if a0_0 = 4 then (if (l0_2.length : Int) = 0 then (spec_Tidy.j1 kj4 ((l0_3.length : Int) == 0) a0_0 a0_1 l0_2 l0_3) else (spec_Tidy.j1 kj4 false a0_0 a0_1 l0_2 l0_3)) else (if a0_0 = 5 then (if a0_1.toList = ([] : List UInt8) then (spec_Tidy.j1 kj4 ((l0_2.length : Int) == 0) a0_0 a0_1 l0_2 l0_3) else (spec_Tidy.j1 kj4 false a0_0 a0_1 l0_2 l0_3)) else (if a0_0 = 6 then (if a0_1.toList = ([] : List UInt8) then (spec_Tidy.j1 kj4 ((l0_2.length : Int) == (l0_3.length : Int)) a0_0 a0_1 l0_2 l0_3) else (spec_Tidy.j1 kj4 false a0_0 a0_1 l0_2 l0_3)) else (spec_Tidy.j1 kj4 false a0_0 a0_1 l0_2 l0_3))))) = some r := by rw [if_neg (show ¬ (false = true) by decide)] at H; exact H
     clear H
     have H := H1
     clear H1
     by_cases c14 : a0_0 = 3
     ·
      rw [if_pos c14] at H
      have c14b0 : (a0_0 == 3) = true := beq_iff_eq.mpr c14
      have c14b1 : (a0_0 != 3) = false := bne_eq_false_iff_eq.mpr c14
      clear c14
      replace H := Option.bind_eq_some_iff.mp H
      obtain ⟨t105, A150, H⟩ := H
      replace H : (if t105 = true then (if (l0_2.length : Int) = 0 then (spec_Tidy.j1 kj4 ((l0_3.length : Int) == 0) a0_0 a0_1 l0_2 l0_3) else (spec_Tidy.j1 kj4 false a0_0 a0_1 l0_2 l0_3)) else (spec_Tidy.j1 kj4 false a0_0 a0_1 l0_2 l0_3)) = some r := H
      have A15 := Aside0.mk A150
      clear A150
      by_cases c16 : t105 = true
      ·
       subst c16
       have H1 : (if (l0_2.length : Int) = 0 then (spec_Tidy.j1 kj4 ((l0_3.length : Int) == 0) a0_0 a0_1 l0_2 l0_3) else (spec_Tidy.j1 kj4 false a0_0 a0_1 l0_2 l0_3)) = some r := by rw [if_pos rfl] at H; exact H
       clear H
       have H := H1
       clear H1
       by_cases c17 : (l0_2.length : Int) = 0
       ·
        rw [if_pos c17] at H
        have c17b0 : ((l0_2.length : Int) == 0) = true := beq_iff_eq.mpr c17
        have c17b1 : ((l0_2.length : Int) != 0) = false := bne_eq_false_iff_eq.mpr c17
        clear c17
        have H' := Aside0.mk H
        clear H
        have hcz18_0 : wc.cell? ⟨gb104, 0, none⟩ = some (.int .i64 a0_0) := (blk_cell BK104.out 0).trans rfl
        have hcz18_1 : wc.cell? ⟨gb104, 1, none⟩ = some (.string a0_1) := (blk_cell BK104.out 1).trans rfl
        have hcz18_2 : wc.cell? ⟨gb104, 2, none⟩ = some (.slice A0_2 l0_2.length c0_2) := (blk_cell BK104.out 2).trans rfl
        have hcz18_3 : wc.cell? ⟨gb104, 3, none⟩ = some (.slice A0_3 l0_3.length c0_3) := (blk_cell BK104.out 3).trans rfl
        have hfz18_0 := blk_frozen BK104.out 0
        have hfz18_1 := blk_frozen BK104.out 1
        have hfz18_2 := blk_frozen BK104.out 2
        have hfz18_3 := blk_frozen BK104.out 3
        go_wp2_with (first | ((with_reducible refine gate_callee (f := 44) rfl ?_); refine goesL_ (some 30) rfl rfl Tryd.func44 (by kernel_rfl) rfl #[.string a0_1] rfl (by (try simp only [List.map_toArray, List.map_cons, List.map_nil]); first | done | rfl | (simp only [List.length_drop, List.length_take]; rfl)) ?_; (with_reducible refine (spec_IsNumber.calls kj4 a0_1 true _ A15.out).mono ?_); rintro e w19 ⟨rfl, hb⟩; refine ⟨_, rfl, ?_⟩; have n0_ := Aside0.mk (blk_below (g := gb104) (o := .cells #[.int .i64 a0_0, .string a0_1, .slice A0_2 l0_2.length c0_2, .slice A0_3 l0_3.length c0_3] 25 (0, 0)) (by (with_reducible repeat (first | refine blk_drewN ?_ _ | refine blk_drew ?_ | refine blk_alloc ?_ _)); exact BK104.out) hb); have n1_ := Aside0.mk (below_step (by repeat (first | (with_reducible first | exact HB.out | apply below_alloc | apply pw_below_drewN | apply below_drew1 | refine below_set ?_ GE104.out) | exact HB.out)) hb); clear BK104; clear HB; have BK104 := n0_; have HB := n1_; clear n0_ n1_; (try clear hb); (try clear hb2); (try clear hk); (try clear hi); have hcz20_0 : w19.cell? ⟨gb104, 0, none⟩ = some (.int .i64 a0_0) := (blk_cell BK104.out 0).trans rfl; have hcz20_1 : w19.cell? ⟨gb104, 1, none⟩ = some (.string a0_1) := (blk_cell BK104.out 1).trans rfl; have hcz20_2 : w19.cell? ⟨gb104, 2, none⟩ = some (.slice A0_2 l0_2.length c0_2) := (blk_cell BK104.out 2).trans rfl; have hcz20_3 : w19.cell? ⟨gb104, 3, none⟩ = some (.slice A0_3 l0_3.length c0_3) := (blk_cell BK104.out 3).trans rfl; have hfz20_0 := blk_frozen BK104.out 0; have hfz20_1 := blk_frozen BK104.out 1; have hfz20_2 := blk_frozen BK104.out 2; have hfz20_3 := blk_frozen BK104.out 3))
        go_meet
        case rel => exact ⟨_, (((l0_3.length : Int) == 0)), (by first | rfl | (simp; done) | (simp [*]; done) | (simp; rw [Bool.eq_iff_iff]; simp; done)), H', ⟨by have := HJ4.out; first | omega | exact Nat.le_refl _⟩, ⟨by (with_reducible repeat (first | refine blk_drewN ?_ _ | refine blk_drew ?_ | refine blk_alloc ?_ _)); exact BK104.out⟩, ⟨by repeat (first | (with_reducible first | exact HB.out | apply below_alloc | apply pw_below_drewN | apply below_drew1 | refine below_set ?_ GE104.out) | exact HB.out)⟩⟩
       ·
        rw [if_neg c17] at H
        have c17b0 : ((l0_2.length : Int) == 0) = false := beq_eq_false_iff_ne.mpr c17
        have c17b1 : ((l0_2.length : Int) != 0) = true := bne_iff_ne.mpr c17
        have c17b2 : ¬ (l0_2 = []) := fun h_ => c17 (by rw [h_]; rfl)
        have H' := Aside0.mk H
        clear H
        have hcz21_0 : wc.cell? ⟨gb104, 0, none⟩ = some (.int .i64 a0_0) := (blk_cell BK104.out 0).trans rfl
        have hcz21_1 : wc.cell? ⟨gb104, 1, none⟩ = some (.string a0_1) := (blk_cell BK104.out 1).trans rfl
        have hcz21_2 : wc.cell? ⟨gb104, 2, none⟩ = some (.slice A0_2 l0_2.length c0_2) := (blk_cell BK104.out 2).trans rfl
        have hcz21_3 : wc.cell? ⟨gb104, 3, none⟩ = some (.slice A0_3 l0_3.length c0_3) := (blk_cell BK104.out 3).trans rfl
        have hfz21_0 := blk_frozen BK104.out 0
        have hfz21_1 := blk_frozen BK104.out 1
        have hfz21_2 := blk_frozen BK104.out 2
        have hfz21_3 := blk_frozen BK104.out 3
        go_wp2_with (first | ((with_reducible refine gate_callee (f := 44) rfl ?_); refine goesL_ (some 30) rfl rfl Tryd.func44 (by kernel_rfl) rfl #[.string a0_1] rfl (by (try simp only [List.map_toArray, List.map_cons, List.map_nil]); first | done | rfl | (simp only [List.length_drop, List.length_take]; rfl)) ?_; (with_reducible refine (spec_IsNumber.calls kj4 a0_1 true _ A15.out).mono ?_); rintro e w22 ⟨rfl, hb⟩; refine ⟨_, rfl, ?_⟩; have n0_ := Aside0.mk (blk_below (g := gb104) (o := .cells #[.int .i64 a0_0, .string a0_1, .slice A0_2 l0_2.length c0_2, .slice A0_3 l0_3.length c0_3] 25 (0, 0)) (by (with_reducible repeat (first | refine blk_drewN ?_ _ | refine blk_drew ?_ | refine blk_alloc ?_ _)); exact BK104.out) hb); have n1_ := Aside0.mk (below_step (by repeat (first | (with_reducible first | exact HB.out | apply below_alloc | apply pw_below_drewN | apply below_drew1 | refine below_set ?_ GE104.out) | exact HB.out)) hb); clear BK104; clear HB; have BK104 := n0_; have HB := n1_; clear n0_ n1_; (try clear hb); (try clear hb2); (try clear hk); (try clear hi); have hcz23_0 : w22.cell? ⟨gb104, 0, none⟩ = some (.int .i64 a0_0) := (blk_cell BK104.out 0).trans rfl; have hcz23_1 : w22.cell? ⟨gb104, 1, none⟩ = some (.string a0_1) := (blk_cell BK104.out 1).trans rfl; have hcz23_2 : w22.cell? ⟨gb104, 2, none⟩ = some (.slice A0_2 l0_2.length c0_2) := (blk_cell BK104.out 2).trans rfl; have hcz23_3 : w22.cell? ⟨gb104, 3, none⟩ = some (.slice A0_3 l0_3.length c0_3) := (blk_cell BK104.out 3).trans rfl; have hfz23_0 := blk_frozen BK104.out 0; have hfz23_1 := blk_frozen BK104.out 1; have hfz23_2 := blk_frozen BK104.out 2; have hfz23_3 := blk_frozen BK104.out 3))
        go_meet
        case rel => exact ⟨_, (false), (by first | rfl | (simp; done) | (simp [*]; done) | (simp; rw [Bool.eq_iff_iff]; simp; done)), H', ⟨by have := HJ4.out; first | omega | exact Nat.le_refl _⟩, ⟨by (with_reducible repeat (first | refine blk_drewN ?_ _ | refine blk_drew ?_ | refine blk_alloc ?_ _)); exact BK104.out⟩, ⟨by repeat (first | (with_reducible first | exact HB.out | apply below_alloc | apply pw_below_drewN | apply below_drew1 | refine below_set ?_ GE104.out) | exact HB.out)⟩⟩
      ·
       replace c16 := Bool.eq_false_iff.mpr c16
       subst c16
       have H1 : (spec_Tidy.j1 kj4 false a0_0 a0_1 l0_2 l0_3) = some r := by rw [if_neg (show ¬ (false = true) by decide)] at H; exact H
       clear H
       have H := H1
       clear H1
       have H' := Aside0.mk H
       clear H
       have hcz24_0 : wc.cell? ⟨gb104, 0, none⟩ = some (.int .i64 a0_0) := (blk_cell BK104.out 0).trans rfl
       have hcz24_1 : wc.cell? ⟨gb104, 1, none⟩ = some (.string a0_1) := (blk_cell BK104.out 1).trans rfl
       have hcz24_2 : wc.cell? ⟨gb104, 2, none⟩ = some (.slice A0_2 l0_2.length c0_2) := (blk_cell BK104.out 2).trans rfl
       have hcz24_3 : wc.cell? ⟨gb104, 3, none⟩ = some (.slice A0_3 l0_3.length c0_3) := (blk_cell BK104.out 3).trans rfl
       have hfz24_0 := blk_frozen BK104.out 0
       have hfz24_1 := blk_frozen BK104.out 1
       have hfz24_2 := blk_frozen BK104.out 2
       have hfz24_3 := blk_frozen BK104.out 3
       go_wp2_with (first | ((with_reducible refine gate_callee (f := 44) rfl ?_); refine goesL_ (some 30) rfl rfl Tryd.func44 (by kernel_rfl) rfl #[.string a0_1] rfl (by (try simp only [List.map_toArray, List.map_cons, List.map_nil]); first | done | rfl | (simp only [List.length_drop, List.length_take]; rfl)) ?_; (with_reducible refine (spec_IsNumber.calls kj4 a0_1 false _ A15.out).mono ?_); rintro e w25 ⟨rfl, hb⟩; refine ⟨_, rfl, ?_⟩; have n0_ := Aside0.mk (blk_below (g := gb104) (o := .cells #[.int .i64 a0_0, .string a0_1, .slice A0_2 l0_2.length c0_2, .slice A0_3 l0_3.length c0_3] 25 (0, 0)) (by (with_reducible repeat (first | refine blk_drewN ?_ _ | refine blk_drew ?_ | refine blk_alloc ?_ _)); exact BK104.out) hb); have n1_ := Aside0.mk (below_step (by repeat (first | (with_reducible first | exact HB.out | apply below_alloc | apply pw_below_drewN | apply below_drew1 | refine below_set ?_ GE104.out) | exact HB.out)) hb); clear BK104; clear HB; have BK104 := n0_; have HB := n1_; clear n0_ n1_; (try clear hb); (try clear hb2); (try clear hk); (try clear hi)))
       go_meet
       case rel => exact ⟨_, (false), (by first | rfl | (simp; done) | (simp [*]; done) | (simp; rw [Bool.eq_iff_iff]; simp; done)), H', ⟨by have := HJ4.out; first | omega | exact Nat.le_refl _⟩, ⟨by (with_reducible repeat (first | refine blk_drewN ?_ _ | refine blk_drew ?_ | refine blk_alloc ?_ _)); exact BK104.out⟩, ⟨by repeat (first | (with_reducible first | exact HB.out | apply below_alloc | apply pw_below_drewN | apply below_drew1 | refine below_set ?_ GE104.out) | exact HB.out)⟩⟩
     ·
      rw [if_neg c14] at H
      have c14b0 : (a0_0 == 3) = false := beq_eq_false_iff_ne.mpr c14
      have c14b1 : (a0_0 != 3) = true := bne_iff_ne.mpr c14
      by_cases c26 : a0_0 = 4
      ·
       rw [if_pos c26] at H
       have c26b0 : (a0_0 == 4) = true := beq_iff_eq.mpr c26
       have c26b1 : (a0_0 != 4) = false := bne_eq_false_iff_eq.mpr c26
       clear c26
       by_cases c27 : (l0_2.length : Int) = 0
       ·
        rw [if_pos c27] at H
        have c27b0 : ((l0_2.length : Int) == 0) = true := beq_iff_eq.mpr c27
        have c27b1 : ((l0_2.length : Int) != 0) = false := bne_eq_false_iff_eq.mpr c27
        clear c27
        have H' := Aside0.mk H
        clear H
        have hcz28_0 : wc.cell? ⟨gb104, 0, none⟩ = some (.int .i64 a0_0) := (blk_cell BK104.out 0).trans rfl
        have hcz28_1 : wc.cell? ⟨gb104, 1, none⟩ = some (.string a0_1) := (blk_cell BK104.out 1).trans rfl
        have hcz28_2 : wc.cell? ⟨gb104, 2, none⟩ = some (.slice A0_2 l0_2.length c0_2) := (blk_cell BK104.out 2).trans rfl
        have hcz28_3 : wc.cell? ⟨gb104, 3, none⟩ = some (.slice A0_3 l0_3.length c0_3) := (blk_cell BK104.out 3).trans rfl
        have hfz28_0 := blk_frozen BK104.out 0
        have hfz28_1 := blk_frozen BK104.out 1
        have hfz28_2 := blk_frozen BK104.out 2
        have hfz28_3 := blk_frozen BK104.out 3
        go_wp2
        go_meet
        case rel => exact ⟨_, (((l0_3.length : Int) == 0)), (by first | rfl | (simp; done) | (simp [*]; done) | (simp; rw [Bool.eq_iff_iff]; simp; done)), H', ⟨by have := HJ4.out; first | omega | exact Nat.le_refl _⟩, ⟨by (with_reducible repeat (first | refine blk_drewN ?_ _ | refine blk_drew ?_ | refine blk_alloc ?_ _)); exact BK104.out⟩, ⟨by repeat (first | (with_reducible first | exact HB.out | apply below_alloc | apply pw_below_drewN | apply below_drew1 | refine below_set ?_ GE104.out) | exact HB.out)⟩⟩
       ·
        rw [if_neg c27] at H
        have c27b0 : ((l0_2.length : Int) == 0) = false := beq_eq_false_iff_ne.mpr c27
        have c27b1 : ((l0_2.length : Int) != 0) = true := bne_iff_ne.mpr c27
        have c27b2 : ¬ (l0_2 = []) := fun h_ => c27 (by rw [h_]; rfl)
        have H' := Aside0.mk H
        clear H
        have hcz29_0 : wc.cell? ⟨gb104, 0, none⟩ = some (.int .i64 a0_0) := (blk_cell BK104.out 0).trans rfl
        have hcz29_1 : wc.cell? ⟨gb104, 1, none⟩ = some (.string a0_1) := (blk_cell BK104.out 1).trans rfl
        have hcz29_2 : wc.cell? ⟨gb104, 2, none⟩ = some (.slice A0_2 l0_2.length c0_2) := (blk_cell BK104.out 2).trans rfl
        have hcz29_3 : wc.cell? ⟨gb104, 3, none⟩ = some (.slice A0_3 l0_3.length c0_3) := (blk_cell BK104.out 3).trans rfl
        have hfz29_0 := blk_frozen BK104.out 0
        have hfz29_1 := blk_frozen BK104.out 1
        have hfz29_2 := blk_frozen BK104.out 2
        have hfz29_3 := blk_frozen BK104.out 3
        go_wp2
        go_meet
        case rel => exact ⟨_, (false), (by first | rfl | (simp; done) | (simp [*]; done) | (simp; rw [Bool.eq_iff_iff]; simp; done)), H', ⟨by have := HJ4.out; first | omega | exact Nat.le_refl _⟩, ⟨by (with_reducible repeat (first | refine blk_drewN ?_ _ | refine blk_drew ?_ | refine blk_alloc ?_ _)); exact BK104.out⟩, ⟨by repeat (first | (with_reducible first | exact HB.out | apply below_alloc | apply pw_below_drewN | apply below_drew1 | refine below_set ?_ GE104.out) | exact HB.out)⟩⟩
      ·
       rw [if_neg c26] at H
       have c26b0 : (a0_0 == 4) = false := beq_eq_false_iff_ne.mpr c26
       have c26b1 : (a0_0 != 4) = true := bne_iff_ne.mpr c26
       by_cases c30 : a0_0 = 5
       ·
        rw [if_pos c30] at H
        have c30b0 : (a0_0 == 5) = true := beq_iff_eq.mpr c30
        have c30b1 : (a0_0 != 5) = false := bne_eq_false_iff_eq.mpr c30
        clear c30
        by_cases c31 : a0_1.toList = ([] : List UInt8)
        ·
         rw [if_pos c31] at H
         have c31b0 : (a0_1.toList == ([] : List UInt8)) = true := beq_iff_eq.mpr c31
         have c31b1 : (a0_1.toList != ([] : List UInt8)) = false := bne_eq_false_iff_eq.mpr c31
         clear c31
         have H' := Aside0.mk H
         clear H
         have hcz32_0 : wc.cell? ⟨gb104, 0, none⟩ = some (.int .i64 a0_0) := (blk_cell BK104.out 0).trans rfl
         have hcz32_1 : wc.cell? ⟨gb104, 1, none⟩ = some (.string a0_1) := (blk_cell BK104.out 1).trans rfl
         have hcz32_2 : wc.cell? ⟨gb104, 2, none⟩ = some (.slice A0_2 l0_2.length c0_2) := (blk_cell BK104.out 2).trans rfl
         have hcz32_3 : wc.cell? ⟨gb104, 3, none⟩ = some (.slice A0_3 l0_3.length c0_3) := (blk_cell BK104.out 3).trans rfl
         have hfz32_0 := blk_frozen BK104.out 0
         have hfz32_1 := blk_frozen BK104.out 1
         have hfz32_2 := blk_frozen BK104.out 2
         have hfz32_3 := blk_frozen BK104.out 3
         go_wp2
         go_meet
         case rel => exact ⟨_, (((l0_2.length : Int) == 0)), (by first | rfl | (simp; done) | (simp [*]; done) | (simp; rw [Bool.eq_iff_iff]; simp; done)), H', ⟨by have := HJ4.out; first | omega | exact Nat.le_refl _⟩, ⟨by (with_reducible repeat (first | refine blk_drewN ?_ _ | refine blk_drew ?_ | refine blk_alloc ?_ _)); exact BK104.out⟩, ⟨by repeat (first | (with_reducible first | exact HB.out | apply below_alloc | apply pw_below_drewN | apply below_drew1 | refine below_set ?_ GE104.out) | exact HB.out)⟩⟩
        ·
         rw [if_neg c31] at H
         have c31b0 : (a0_1.toList == ([] : List UInt8)) = false := beq_eq_false_iff_ne.mpr c31
         have c31b1 : (a0_1.toList != ([] : List UInt8)) = true := bne_iff_ne.mpr c31
         have H' := Aside0.mk H
         clear H
         have hcz33_0 : wc.cell? ⟨gb104, 0, none⟩ = some (.int .i64 a0_0) := (blk_cell BK104.out 0).trans rfl
         have hcz33_1 : wc.cell? ⟨gb104, 1, none⟩ = some (.string a0_1) := (blk_cell BK104.out 1).trans rfl
         have hcz33_2 : wc.cell? ⟨gb104, 2, none⟩ = some (.slice A0_2 l0_2.length c0_2) := (blk_cell BK104.out 2).trans rfl
         have hcz33_3 : wc.cell? ⟨gb104, 3, none⟩ = some (.slice A0_3 l0_3.length c0_3) := (blk_cell BK104.out 3).trans rfl
         have hfz33_0 := blk_frozen BK104.out 0
         have hfz33_1 := blk_frozen BK104.out 1
         have hfz33_2 := blk_frozen BK104.out 2
         have hfz33_3 := blk_frozen BK104.out 3
         go_wp2
         go_meet
         case rel => exact ⟨_, (false), (by first | rfl | (simp; done) | (simp [*]; done) | (simp; rw [Bool.eq_iff_iff]; simp; done)), H', ⟨by have := HJ4.out; first | omega | exact Nat.le_refl _⟩, ⟨by (with_reducible repeat (first | refine blk_drewN ?_ _ | refine blk_drew ?_ | refine blk_alloc ?_ _)); exact BK104.out⟩, ⟨by repeat (first | (with_reducible first | exact HB.out | apply below_alloc | apply pw_below_drewN | apply below_drew1 | refine below_set ?_ GE104.out) | exact HB.out)⟩⟩
       ·
        rw [if_neg c30] at H
        have c30b0 : (a0_0 == 5) = false := beq_eq_false_iff_ne.mpr c30
        have c30b1 : (a0_0 != 5) = true := bne_iff_ne.mpr c30
        by_cases c34 : a0_0 = 6
        ·
         rw [if_pos c34] at H
         have c34b0 : (a0_0 == 6) = true := beq_iff_eq.mpr c34
         have c34b1 : (a0_0 != 6) = false := bne_eq_false_iff_eq.mpr c34
         clear c34
         by_cases c35 : a0_1.toList = ([] : List UInt8)
         ·
          rw [if_pos c35] at H
          have c35b0 : (a0_1.toList == ([] : List UInt8)) = true := beq_iff_eq.mpr c35
          have c35b1 : (a0_1.toList != ([] : List UInt8)) = false := bne_eq_false_iff_eq.mpr c35
          clear c35
          have H' := Aside0.mk H
          clear H
          have hcz36_0 : wc.cell? ⟨gb104, 0, none⟩ = some (.int .i64 a0_0) := (blk_cell BK104.out 0).trans rfl
          have hcz36_1 : wc.cell? ⟨gb104, 1, none⟩ = some (.string a0_1) := (blk_cell BK104.out 1).trans rfl
          have hcz36_2 : wc.cell? ⟨gb104, 2, none⟩ = some (.slice A0_2 l0_2.length c0_2) := (blk_cell BK104.out 2).trans rfl
          have hcz36_3 : wc.cell? ⟨gb104, 3, none⟩ = some (.slice A0_3 l0_3.length c0_3) := (blk_cell BK104.out 3).trans rfl
          have hfz36_0 := blk_frozen BK104.out 0
          have hfz36_1 := blk_frozen BK104.out 1
          have hfz36_2 := blk_frozen BK104.out 2
          have hfz36_3 := blk_frozen BK104.out 3
          go_wp2
          go_meet
          case rel => exact ⟨_, (((l0_2.length : Int) == (l0_3.length : Int))), (by first | rfl | (simp; done) | (simp [*]; done) | (simp; rw [Bool.eq_iff_iff]; simp; done)), H', ⟨by have := HJ4.out; first | omega | exact Nat.le_refl _⟩, ⟨by (with_reducible repeat (first | refine blk_drewN ?_ _ | refine blk_drew ?_ | refine blk_alloc ?_ _)); exact BK104.out⟩, ⟨by repeat (first | (with_reducible first | exact HB.out | apply below_alloc | apply pw_below_drewN | apply below_drew1 | refine below_set ?_ GE104.out) | exact HB.out)⟩⟩
         ·
          rw [if_neg c35] at H
          have c35b0 : (a0_1.toList == ([] : List UInt8)) = false := beq_eq_false_iff_ne.mpr c35
          have c35b1 : (a0_1.toList != ([] : List UInt8)) = true := bne_iff_ne.mpr c35
          have H' := Aside0.mk H
          clear H
          have hcz37_0 : wc.cell? ⟨gb104, 0, none⟩ = some (.int .i64 a0_0) := (blk_cell BK104.out 0).trans rfl
          have hcz37_1 : wc.cell? ⟨gb104, 1, none⟩ = some (.string a0_1) := (blk_cell BK104.out 1).trans rfl
          have hcz37_2 : wc.cell? ⟨gb104, 2, none⟩ = some (.slice A0_2 l0_2.length c0_2) := (blk_cell BK104.out 2).trans rfl
          have hcz37_3 : wc.cell? ⟨gb104, 3, none⟩ = some (.slice A0_3 l0_3.length c0_3) := (blk_cell BK104.out 3).trans rfl
          have hfz37_0 := blk_frozen BK104.out 0
          have hfz37_1 := blk_frozen BK104.out 1
          have hfz37_2 := blk_frozen BK104.out 2
          have hfz37_3 := blk_frozen BK104.out 3
          go_wp2
          go_meet
          case rel => exact ⟨_, (false), (by first | rfl | (simp; done) | (simp [*]; done) | (simp; rw [Bool.eq_iff_iff]; simp; done)), H', ⟨by have := HJ4.out; first | omega | exact Nat.le_refl _⟩, ⟨by (with_reducible repeat (first | refine blk_drewN ?_ _ | refine blk_drew ?_ | refine blk_alloc ?_ _)); exact BK104.out⟩, ⟨by repeat (first | (with_reducible first | exact HB.out | apply below_alloc | apply pw_below_drewN | apply below_drew1 | refine below_set ?_ GE104.out) | exact HB.out)⟩⟩
        ·
         rw [if_neg c34] at H
         have c34b0 : (a0_0 == 6) = false := beq_eq_false_iff_ne.mpr c34
         have c34b1 : (a0_0 != 6) = true := bne_iff_ne.mpr c34
         have H' := Aside0.mk H
         clear H
         go_wp2
         go_meet
         case rel => exact ⟨_, (false), (by first | rfl | (simp; done) | (simp [*]; done) | (simp; rw [Bool.eq_iff_iff]; simp; done)), H', ⟨by have := HJ4.out; first | omega | exact Nat.le_refl _⟩, ⟨by (with_reducible repeat (first | refine blk_drewN ?_ _ | refine blk_drew ?_ | refine blk_alloc ?_ _)); exact BK104.out⟩, ⟨by repeat (first | (with_reducible first | exact HB.out | apply below_alloc | apply pw_below_drewN | apply below_drew1 | refine below_set ?_ GE104.out) | exact HB.out)⟩⟩
 case rest =>
  clear HC2
  (try clear c1); (try clear c2); (try clear p2); (try clear c3); (try clear c4); (try clear c6); (try clear c6b0); (try clear c6b1); (try clear c7); (try clear c7b0); (try clear c7b1); (try clear c8); (try clear c9); (try clear c9b0); (try clear c9b1); (try clear c10); (try clear c10b0); (try clear c10b1); (try clear c10b2); (try clear c14); (try clear c14b0); (try clear c14b1); (try clear c16); (try clear c17); (try clear c17b0); (try clear c17b1); (try clear c17b2); (try clear c25); (try clear c26); (try clear c26b0); (try clear c26b1); (try clear c27); (try clear c27b0); (try clear c27b1); (try clear c27b2); (try clear c30); (try clear c30b0); (try clear c30b1); (try clear c31); (try clear c31b0); (try clear c31b1); (try clear c34); (try clear c34b0); (try clear c34b1); (try clear c35); (try clear c35b0); (try clear c35b1); (try clear hcz11_0); (try clear hcz11_1); (try clear hcz11_2); (try clear hcz11_3); (try clear hcz12_0); (try clear hcz12_1); (try clear hcz12_2); (try clear hcz12_3); (try clear hcz13_0); (try clear hcz13_1); (try clear hcz13_2); (try clear hcz13_3); (try clear hcz18_0); (try clear hcz18_1); (try clear hcz18_2); (try clear hcz18_3); (try clear hcz20_0); (try clear hcz20_1); (try clear hcz20_2); (try clear hcz20_3); (try clear hcz21_0); (try clear hcz21_1); (try clear hcz21_2); (try clear hcz21_3); (try clear hcz23_0); (try clear hcz23_1); (try clear hcz23_2); (try clear hcz23_3); (try clear hcz24_0); (try clear hcz24_1); (try clear hcz24_2); (try clear hcz24_3); (try clear hcz28_0); (try clear hcz28_1); (try clear hcz28_2); (try clear hcz28_3); (try clear hcz29_0); (try clear hcz29_1); (try clear hcz29_2); (try clear hcz29_3); (try clear hcz32_0); (try clear hcz32_1); (try clear hcz32_2); (try clear hcz32_3); (try clear hcz33_0); (try clear hcz33_1); (try clear hcz33_2); (try clear hcz33_3); (try clear hcz36_0); (try clear hcz36_1); (try clear hcz36_2); (try clear hcz36_3); (try clear hcz37_0); (try clear hcz37_1); (try clear hcz37_2); (try clear hcz37_3); (try clear hcz4_0); (try clear hcz4_1); (try clear hcz4_2); (try clear hcz4_3); (try clear hfz11_0); (try clear hfz11_1); (try clear hfz11_2); (try clear hfz11_3); (try clear hfz12_0); (try clear hfz12_1); (try clear hfz12_2); (try clear hfz12_3); (try clear hfz13_0); (try clear hfz13_1); (try clear hfz13_2); (try clear hfz13_3); (try clear hfz18_0); (try clear hfz18_1); (try clear hfz18_2); (try clear hfz18_3); (try clear hfz20_0); (try clear hfz20_1); (try clear hfz20_2); (try clear hfz20_3); (try clear hfz21_0); (try clear hfz21_1); (try clear hfz21_2); (try clear hfz21_3); (try clear hfz23_0); (try clear hfz23_1); (try clear hfz23_2); (try clear hfz23_3); (try clear hfz24_0); (try clear hfz24_1); (try clear hfz24_2); (try clear hfz24_3); (try clear hfz28_0); (try clear hfz28_1); (try clear hfz28_2); (try clear hfz28_3); (try clear hfz29_0); (try clear hfz29_1); (try clear hfz29_2); (try clear hfz29_3); (try clear hfz32_0); (try clear hfz32_1); (try clear hfz32_2); (try clear hfz32_3); (try clear hfz33_0); (try clear hfz33_1); (try clear hfz33_2); (try clear hfz33_3); (try clear hfz36_0); (try clear hfz36_1); (try clear hfz36_2); (try clear hfz36_3); (try clear hfz37_0); (try clear hfz37_1); (try clear hfz37_2); (try clear hfz37_3); (try clear hfz4_0); (try clear hfz4_1); (try clear hfz4_2); (try clear hfz4_3); (try clear p2)
  obtain ⟨kq, x3_1, rfl, HA, HJ1, BK104, HB⟩ := hcut
  cases kq with
  | zero => exact absurd HA.out (by simp [spec_Tidy.j1])
  | succ kj1 =>
   have H := HA.out
   clear HA
   simp only [spec_Tidy.j1] at H
   have H' := Aside0.mk H
   clear H
   go_wp2
   try simp only [Act.put, List.setIfInBounds_toArray, List.set_cons_succ, List.set_cons_zero]
   go_loopg [3, 4] kj1 (fun kq v3 v4 w' => ∃ (x3_2 : Bool) (x4_2 : Int), v3 = .bool x3_2 ∧ v4 = .int .i64 x4_2 ∧ Aside0 (spec_Tidy.l0 kq x3_2 x4_2 a0_0 a0_1 l0_2 l0_3 = some r) ∧ Aside0 (kq ≤ kj1) ∧ Aside0 (w'.heap[gb104]? = some (.cells #[.int .i64 a0_0, .string a0_1, (.slice A0_2 l0_2.length c0_2), (.slice A0_3 l0_3.length c0_3)] 25 (0, 0))) ∧ Aside0 (Below w.heap.size w w'))
   case atStart => exact ⟨(x3_1), (0), (by first | rfl | (simp; done) | (simp [*]; done) | (simp; rw [Bool.eq_iff_iff]; simp; done)), (by first | rfl | (simp; done) | (simp [*]; done) | (simp; rw [Bool.eq_iff_iff]; simp; done)), H', ⟨Nat.le_refl _⟩, ⟨by (with_reducible repeat (first | refine blk_drewN ?_ _ | refine blk_drew ?_ | refine blk_alloc ?_ _)); exact BK104.out⟩, ⟨by repeat (first | (with_reducible first | exact HB.out | apply below_alloc | apply pw_below_drewN | apply below_drew1 | refine below_set ?_ GE104.out) | exact HB.out)⟩⟩
   case round =>
    clear H'
    (try clear c1); (try clear c2); (try clear p2); (try clear c3); (try clear c4); (try clear c6); (try clear c6b0); (try clear c6b1); (try clear c7); (try clear c7b0); (try clear c7b1); (try clear c8); (try clear c9); (try clear c9b0); (try clear c9b1); (try clear c10); (try clear c10b0); (try clear c10b1); (try clear c10b2); (try clear c14); (try clear c14b0); (try clear c14b1); (try clear c16); (try clear c17); (try clear c17b0); (try clear c17b1); (try clear c17b2); (try clear c25); (try clear c26); (try clear c26b0); (try clear c26b1); (try clear c27); (try clear c27b0); (try clear c27b1); (try clear c27b2); (try clear c30); (try clear c30b0); (try clear c30b1); (try clear c31); (try clear c31b0); (try clear c31b1); (try clear c34); (try clear c34b0); (try clear c34b1); (try clear c35); (try clear c35b0); (try clear c35b1); (try clear hcz11_0); (try clear hcz11_1); (try clear hcz11_2); (try clear hcz11_3); (try clear hcz12_0); (try clear hcz12_1); (try clear hcz12_2); (try clear hcz12_3); (try clear hcz13_0); (try clear hcz13_1); (try clear hcz13_2); (try clear hcz13_3); (try clear hcz18_0); (try clear hcz18_1); (try clear hcz18_2); (try clear hcz18_3); (try clear hcz20_0); (try clear hcz20_1); (try clear hcz20_2); (try clear hcz20_3); (try clear hcz21_0); (try clear hcz21_1); (try clear hcz21_2); (try clear hcz21_3); (try clear hcz23_0); (try clear hcz23_1); (try clear hcz23_2); (try clear hcz23_3); (try clear hcz24_0); (try clear hcz24_1); (try clear hcz24_2); (try clear hcz24_3); (try clear hcz28_0); (try clear hcz28_1); (try clear hcz28_2); (try clear hcz28_3); (try clear hcz29_0); (try clear hcz29_1); (try clear hcz29_2); (try clear hcz29_3); (try clear hcz32_0); (try clear hcz32_1); (try clear hcz32_2); (try clear hcz32_3); (try clear hcz33_0); (try clear hcz33_1); (try clear hcz33_2); (try clear hcz33_3); (try clear hcz36_0); (try clear hcz36_1); (try clear hcz36_2); (try clear hcz36_3); (try clear hcz37_0); (try clear hcz37_1); (try clear hcz37_2); (try clear hcz37_3); (try clear hcz4_0); (try clear hcz4_1); (try clear hcz4_2); (try clear hcz4_3); (try clear hfz11_0); (try clear hfz11_1); (try clear hfz11_2); (try clear hfz11_3); (try clear hfz12_0); (try clear hfz12_1); (try clear hfz12_2); (try clear hfz12_3); (try clear hfz13_0); (try clear hfz13_1); (try clear hfz13_2); (try clear hfz13_3); (try clear hfz18_0); (try clear hfz18_1); (try clear hfz18_2); (try clear hfz18_3); (try clear hfz20_0); (try clear hfz20_1); (try clear hfz20_2); (try clear hfz20_3); (try clear hfz21_0); (try clear hfz21_1); (try clear hfz21_2); (try clear hfz21_3); (try clear hfz23_0); (try clear hfz23_1); (try clear hfz23_2); (try clear hfz23_3); (try clear hfz24_0); (try clear hfz24_1); (try clear hfz24_2); (try clear hfz24_3); (try clear hfz28_0); (try clear hfz28_1); (try clear hfz28_2); (try clear hfz28_3); (try clear hfz29_0); (try clear hfz29_1); (try clear hfz29_2); (try clear hfz29_3); (try clear hfz32_0); (try clear hfz32_1); (try clear hfz32_2); (try clear hfz32_3); (try clear hfz33_0); (try clear hfz33_1); (try clear hfz33_2); (try clear hfz33_3); (try clear hfz36_0); (try clear hfz36_1); (try clear hfz36_2); (try clear hfz36_3); (try clear hfz37_0); (try clear hfz37_1); (try clear hfz37_2); (try clear hfz37_3); (try clear hfz4_0); (try clear hfz4_1); (try clear hfz4_2); (try clear hfz4_3); (try clear p2)
    obtain ⟨x3_2, x4_2, rfl, rfl, HA, HK2, BK104, HB⟩ := hrel
    cases gk with
    | zero => exact absurd HA.out (by simp [spec_Tidy.l0])
    | succ k2 =>
     have H := HA.out
     clear HA
     simp only [spec_Tidy.l0] at H
     by_cases c38 : x3_2 = true
     ·
      subst c38
      have H1 : (if x4_2 < (l0_3.length : Int) then (if 0 ≤ x4_2 then ((spec_Tidy.f k2 ((rd_T25 l0_3 x4_2).f0) ((rd_T25 l0_3 x4_2).f1) ((rd_T25 l0_3 x4_2).f2) ((rd_T25 l0_3 x4_2).f3)).bind fun t107 => (spec_Tidy.l0 k2 t107 (wrap64 (x4_2 + 1)) a0_0 a0_1 l0_2 l0_3)) else (none)) else (some true)) = some r := by rw [if_pos rfl] at H; exact H
      clear H
      have H := H1
      clear H1
      by_cases c39 : x4_2 < (l0_3.length : Int)
      ·
       rw [if_pos c39] at H
       have c39b0 : decide (x4_2 < (l0_3.length : Int)) = true := decide_eq_true c39
       clear c39
       by_cases c40 : 0 ≤ x4_2
       ·
        rw [if_pos c40] at H
        have c40b0 : decide (0 ≤ x4_2) = true := decide_eq_true c40
        clear c40
        replace H := Option.bind_eq_some_iff.mp H
        obtain ⟨t107, A410, H⟩ := H
        replace H : (spec_Tidy.l0 k2 t107 (wrap64 (x4_2 + 1)) a0_0 a0_1 l0_2 l0_3) = some r := H
        have A41 := Aside0.mk A410
        clear A410
        have H' := Aside0.mk H
        clear H
        have hcz42_0 : wr.cell? ⟨gb104, 0, none⟩ = some (.int .i64 a0_0) := (blk_cell BK104.out 0).trans rfl
        have hcz42_1 : wr.cell? ⟨gb104, 1, none⟩ = some (.string a0_1) := (blk_cell BK104.out 1).trans rfl
        have hcz42_2 : wr.cell? ⟨gb104, 2, none⟩ = some (.slice A0_2 l0_2.length c0_2) := (blk_cell BK104.out 2).trans rfl
        have hcz42_3 : wr.cell? ⟨gb104, 3, none⟩ = some (.slice A0_3 l0_3.length c0_3) := (blk_cell BK104.out 3).trans rfl
        have hfz42_0 := blk_frozen BK104.out 0
        have hfz42_1 := blk_frozen BK104.out 1
        have hfz42_2 := blk_frozen BK104.out 2
        have hfz42_3 := blk_frozen BK104.out 3
        have p106 : 0 ≤ (x4_2 : Int) := of_decide_eq_true (by first | (with_reducible assumption) | assumption)
        have q106 : x4_2 < (l0_3.length : Int) := of_decide_eq_true (by first | (with_reducible assumption) | assumption)
        obtain ⟨ad106, A106_2, c106_2, A106_3, c106_3, e106, hx106_0, hx106_1, hx106_2, hx106_3, hl106_2, hi106_2, hl106_3, hi106_3⟩ := at_T25 HR0_3.out x4_2 p106 q106
        cases e106
        replace hx106_0 := (HB.out.cell (World.block_lt_of_cell? w _ hx106_0)).trans hx106_0
        replace hx106_1 := (HB.out.cell (World.block_lt_of_cell? w _ hx106_1)).trans hx106_1
        replace hx106_2 := (HB.out.cell (World.block_lt_of_cell? w _ hx106_2)).trans hx106_2
        replace hx106_3 := (HB.out.cell (World.block_lt_of_cell? w _ hx106_3)).trans hx106_3
        have HR106_2 := Aside0.mk hi106_2
        have HC106_2 := Aside0.mk hl106_2
        clear hi106_2 hl106_2
        have HR106_3 := Aside0.mk hi106_3
        have HC106_3 := Aside0.mk hl106_3
        clear hi106_3 hl106_3
        replace p106 := eq_true p106
        replace q106 := eq_true q106
        go_wp2_with (first | ((with_reducible refine gate_callee (f := 25) rfl ?_); refine goesL_ (some 95) rfl rfl Tryd.func25 (by kernel_rfl) rfl #[.agg #[.int .i64 ((rd_T25 l0_3 x4_2).f0), .string ((rd_T25 l0_3 x4_2).f1), .slice A106_2 ((rd_T25 l0_3 x4_2).f2).length c106_2, .slice A106_3 ((rd_T25 l0_3 x4_2).f3).length c106_3]] rfl (by (try simp only [List.map_toArray, List.map_cons, List.map_nil]); first | done | rfl | (simp only [List.length_drop, List.length_take]; rfl)) ?_; (with_reducible refine (ih k2 (by have := HJ1.out; have := HK2.out; omega) ((rd_T25 l0_3 x4_2).f0) ((rd_T25 l0_3 x4_2).f1) _ _ ((rd_T25 l0_3 x4_2).f2) _ _ ((rd_T25 l0_3 x4_2).f3) t107 _ ?side1 ?side2 ?side3 ?side4 A41.out).mono ?_); (case side1 => repeat (first | exact (Kd.C_below HR106_2.out HB.out) | (with_reducible refine Kd.C_alloc ?_ _) | (with_reducible refine Kd.C_drewN ?_ _) | (with_reducible refine Kd.C_drew ?_))); (case side2 => exact HC106_2.out); (case side3 => repeat (first | exact (Kd.C_below HR106_3.out HB.out) | (with_reducible refine Kd.C_alloc ?_ _) | (with_reducible refine Kd.C_drewN ?_ _) | (with_reducible refine Kd.C_drew ?_))); (case side4 => exact HC106_3.out); rintro e w43 ⟨rfl, hb⟩; refine ⟨_, rfl, ?_⟩; have n0_ := Aside0.mk (blk_below (g := gb104) (o := .cells #[.int .i64 a0_0, .string a0_1, .slice A0_2 l0_2.length c0_2, .slice (some ad106) l0_3.length c0_3] 25 (0, 0)) (by (with_reducible repeat (first | refine blk_drewN ?_ _ | refine blk_drew ?_ | refine blk_alloc ?_ _)); exact BK104.out) hb); have n1_ := Aside0.mk (below_step (by repeat (first | (with_reducible first | exact HB.out | apply below_alloc | apply pw_below_drewN | apply below_drew1 | refine below_set ?_ GE104.out) | exact HB.out)) hb); clear BK104; clear HB; have BK104 := n0_; have HB := n1_; clear n0_ n1_; (try clear hb); (try clear hb2); (try clear hk); (try clear hi)))
        go_roundg k2
        case measure => have := HJ1.out; have := HK2.out; omega
        case rel => exact ⟨(t107), (wrap64 (x4_2 + 1)), (by first | rfl | (simp; done) | (simp [*]; done) | (simp; rw [Bool.eq_iff_iff]; simp; done)), (by first | rfl | (simp; done) | (simp [*]; done) | (simp; rw [Bool.eq_iff_iff]; simp; done)), H', ⟨by have := HJ1.out; have := HK2.out; omega⟩, ⟨by (with_reducible repeat (first | refine blk_drewN ?_ _ | refine blk_drew ?_ | refine blk_alloc ?_ _)); exact BK104.out⟩, ⟨by repeat (first | (with_reducible first | exact HB.out | apply below_alloc | apply pw_below_drewN | apply below_drew1 | refine below_set ?_ GE104.out) | exact HB.out)⟩⟩
       ·
        rw [if_neg c40] at H
        exact absurd H (by simp)
      ·
       rw [if_neg c39] at H
       have c39b0 : decide (x4_2 < (l0_3.length : Int)) = false := decide_eq_false c39
       clear c39
       obtain rfl := Option.some.inj H
       have hcz44_0 : wr.cell? ⟨gb104, 0, none⟩ = some (.int .i64 a0_0) := (blk_cell BK104.out 0).trans rfl
       have hcz44_1 : wr.cell? ⟨gb104, 1, none⟩ = some (.string a0_1) := (blk_cell BK104.out 1).trans rfl
       have hcz44_2 : wr.cell? ⟨gb104, 2, none⟩ = some (.slice A0_2 l0_2.length c0_2) := (blk_cell BK104.out 2).trans rfl
       have hcz44_3 : wr.cell? ⟨gb104, 3, none⟩ = some (.slice A0_3 l0_3.length c0_3) := (blk_cell BK104.out 3).trans rfl
       have hfz44_0 := blk_frozen BK104.out 0
       have hfz44_1 := blk_frozen BK104.out 1
       have hfz44_2 := blk_frozen BK104.out 2
       have hfz44_3 := blk_frozen BK104.out 3
       go_wp2
       go_ret
       exact ⟨by first | rfl | (simp [errW_none, errW_some] <;> rfl) | (simp [*, errW_none, errW_some] <;> rfl), by repeat (first | (with_reducible first | exact HB.out | apply below_alloc | apply pw_below_drewN | apply below_drew1 | refine below_set ?_ GE104.out) | exact HB.out)⟩
     ·
      replace c38 := Bool.eq_false_iff.mpr c38
      subst c38
      have H1 : (some false) = some r := by rw [if_neg (show ¬ (false = true) by decide)] at H; exact H
      clear H
      have H := H1
      clear H1
      obtain rfl := Option.some.inj H
      go_wp2
      go_ret
      exact ⟨by first | rfl | (simp [errW_none, errW_some] <;> rfl) | (simp [*, errW_none, errW_some] <;> rfl), by repeat (first | (with_reducible first | exact HB.out | apply below_alloc | apply pw_below_drewN | apply below_drew1 | refine below_set ?_ GE104.out) | exact HB.out)⟩

end Go.Proofs.YtdjogkfgegopfaaDoor.MFnPaMergeAgain
