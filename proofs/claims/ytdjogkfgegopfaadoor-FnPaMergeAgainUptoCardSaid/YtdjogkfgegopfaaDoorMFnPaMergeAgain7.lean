/- What Go functions compute, as functions of numbers and lists, and the walks that show it. No condition. Written by a program (wip/tools/mprint.py) over the kit's print. -/
import Derived.Test.YtdjogkfgegopfaaDoorMFnPaMergeAgain0
import Derived.Test.YtdjogkfgegopfaaDoorMFnPaMergeAgain6
namespace Go.Proofs.YtdjogkfgegopfaaDoor.MFnPaMergeAgain
open Go.RowKit Go.Proofs.YtdjogkfgegopfaaDoorW.PrintWords Go.Proofs.YtdjogkfgegopfaaDoorW.PrintLast Go.Proofs.YtdjogkfgegopfaaDoorW.PrintMore
attribute [local go_sem] max2_int min2_int max_two min_two max_three min_three max_four min_four   -- for this text's walks alone
set_option linter.unusedVariables false
set_option linter.unusedSimpArgs false

/-! ### spec_KeepsNulls: function 18 -/
mutual
def spec_KeepsNulls.l0 : Nat → List (S25) → Int → Int → Int → ByteArray → List ByteArray → List (S25) → Option (Bool)
 | 0, _, _, _, _, _, _, _ => none
 | k + 1, x6, x7, x8, x144000, x144001, x144002, x144003 => if x8 < x7 then (if 0 ≤ x8 then (if x8 < (x6.length : Int) then ((spec_KeepsNulls.f k ((rd_T25 x6 x8).f0) ((rd_T25 x6 x8).f1) ((rd_T25 x6 x8).f2) ((rd_T25 x6 x8).f3)).bind fun t146 => (if t146 = true then (some true) else (if x144000 = 5 then ((spec_NoNulls.f k ((rd_T25 x6 x8).f0) ((rd_T25 x6 x8).f1) ((rd_T25 x6 x8).f2) ((rd_T25 x6 x8).f3)).bind fun t147 => (if t147 = true then (spec_KeepsNulls.l0 k x6 x7 (wrap64 (x8 + 1)) x144000 x144001 x144002 x144003) else (some true))) else (spec_KeepsNulls.l0 k x6 x7 (wrap64 (x8 + 1)) x144000 x144001 x144002 x144003)))) else (none)) else (none)) else (some false)
def spec_KeepsNulls.f : Nat → Int → ByteArray → List ByteArray → List (S25) → Option (Bool)
 | 0, _, _, _, _ => none
 | k + 1, a0_0, a0_1, l0_2, l0_3 => spec_KeepsNulls.l0 k l0_3 (l0_3.length : Int) 0 a0_0 a0_1 l0_2 l0_3
end
theorem spec_KeepsNulls.mono_l : ∀ k, (∀ y0 y1 y2 y3, LeO (spec_KeepsNulls.f k y0 y1 y2 y3) (spec_KeepsNulls.f (k + 1) y0 y1 y2 y3)) ∧ (∀ y0 y1 y2 y3 y4 y5 y6, LeO (spec_KeepsNulls.l0 k y0 y1 y2 y3 y4 y5 y6) (spec_KeepsNulls.l0 (k + 1) y0 y1 y2 y3 y4 y5 y6))
 | 0 => ⟨fun _ _ _ _ r h => by simp [spec_KeepsNulls.f] at h, fun _ _ _ _ _ _ _ r h => by simp [spec_KeepsNulls.l0] at h⟩
 | k + 1 => by
  obtain ⟨ih0, ih1⟩ := spec_KeepsNulls.mono_l k
  refine ⟨?_, ?_⟩
  ·
   intro y0 y1 y2 y3
   unfold spec_KeepsNulls.f
   repeat' first
   | (with_reducible exact ih0 _ _ _ _)
   | (with_reducible exact ih1 _ _ _ _ _ _ _)
   | (with_reducible exact spec_NoNulls.mono _ _ _ _ _)
   | (with_reducible exact LeO.refl _)
   | (with_reducible exact LeO.none _)
   | (with_reducible refine LeO.ite ?_ ?_)
   | (with_reducible refine LeO.bind ?_ (fun _ => ?_))
   | exact ih0 _ _ _ _
   | exact ih1 _ _ _ _ _ _ _
   | exact spec_NoNulls.mono _ _ _ _ _
   | exact LeO.none _
   | refine LeO.ite ?_ ?_
   | refine LeO.bind ?_ (fun _ => ?_)
  ·
   intro y0 y1 y2 y3 y4 y5 y6
   unfold spec_KeepsNulls.l0
   repeat' first
   | (with_reducible exact ih0 _ _ _ _)
   | (with_reducible exact ih1 _ _ _ _ _ _ _)
   | (with_reducible exact spec_NoNulls.mono _ _ _ _ _)
   | (with_reducible exact LeO.refl _)
   | (with_reducible exact LeO.none _)
   | (with_reducible refine LeO.ite ?_ ?_)
   | (with_reducible refine LeO.bind ?_ (fun _ => ?_))
   | exact ih0 _ _ _ _
   | exact ih1 _ _ _ _ _ _ _
   | exact spec_NoNulls.mono _ _ _ _ _
   | exact LeO.none _
   | refine LeO.ite ?_ ?_
   | refine LeO.bind ?_ (fun _ => ?_)
theorem spec_KeepsNulls.mono : ∀ a0 a1 a2 a3 k, LeO (spec_KeepsNulls.f k a0 a1 a2 a3) (spec_KeepsNulls.f (k + 1) a0 a1 a2 a3) := by
 intro a0 a1 a2 a3 k
 obtain ⟨ih0, ih1⟩ := spec_KeepsNulls.mono_l k
 exact ih0 a0 a1 a2 a3
set_option maxHeartbeats 8000000 in
set_option maxRecDepth 100000 in
theorem spec_KeepsNulls.calls (k : Nat) : ∀ (a0_0 : Int) (a0_1 : ByteArray) (A0_2 : Option Addr) (c0_2 : Nat) (l0_2 : List ByteArray) (A0_3 : Option Addr) (c0_3 : Nat) (l0_3 : List (S25)) (r : Bool) (w : World) (hr0_2 : Kd.C Kd.string w A0_2 l0_2.length l0_2) (hc0_2 : l0_2.length ≤ c0_2) (hr0_3 : Kd.C k25 w A0_3 l0_3.length l0_3) (hc0_3 : l0_3.length ≤ c0_3) (h : spec_KeepsNulls.f k a0_0 a0_1 l0_2 l0_3 = some r),
  Calls Tryd.prog 18 #[.agg #[.int .i64 a0_0, .string a0_1, .slice A0_2 l0_2.length c0_2, .slice A0_3 l0_3.length c0_3]] w fun e w' => e = .returned (.bool r) ∧ Below w.heap.size w w' := by
 induction k using Nat.strongRecOn with
 | _ k ih =>
 intro a0_0 a0_1 A0_2 c0_2 l0_2 A0_3 c0_3 l0_3 r w hr0_2 hc0_2 hr0_3 hc0_3 h
 cases k with
 | zero => exact absurd h (by simp [spec_KeepsNulls.f])
 | succ k =>
 simp only [spec_KeepsNulls.f] at h
 have hu25 := Tryd.underlying25
 have HR0_2 := Aside0.mk hr0_2
 have HC0_2 := Aside0.mk hc0_2
 clear hr0_2 hc0_2
 have HR0_3 := Aside0.mk hr0_3
 have HC0_3 := Aside0.mk hc0_3
 clear hr0_3 hc0_3
 have HB := Aside0.mk (Below.refl w.heap.size w)
 have H : (spec_KeepsNulls.l0 k l0_3 (l0_3.length : Int) 0 a0_0 a0_1 l0_2 l0_3) = some r := h
 clear h
 have H' := Aside0.mk H
 clear H
 go_enter Tryd.func18, Tryd.ntmps18
 go_wp2_with (first | ((with_reducible refine gate_dst (N := 1) rfl ?_); refine box_event ?hg (N := 1) ?hd (cs := #[.int .i64 a0_0, .string a0_1, .slice A0_2 l0_2.length c0_2, .slice A0_3 l0_3.length c0_3]) (t := 25) ?hr ?_; (case hd => rfl); (case hg => rfl); (case hr => first | (go_simp; done) | (go_simp; rfl)); intro gb143 hg w2 hbox hb; have n0_ := Aside0.mk (below_step (by repeat (first | (with_reducible first | exact HB.out | apply below_alloc | apply pw_below_drewN | apply below_drew1) | exact HB.out)) hb); have n1_ := Aside0.mk (hbox); have n2_ := Aside0.mk ((by rw [hg]; exact (below_size (by repeat (first | (with_reducible first | exact HB.out | apply below_alloc | apply pw_below_drewN | apply below_drew1) | exact HB.out))) : w.heap.size ≤ gb143)); have n3_ := Aside0.mk ((by rw [hg]; exact (below_size (by repeat (first | (with_reducible first | exact HB.out | apply below_alloc | apply pw_below_drewN | apply below_drew1) | exact HB.out))) : w.heap.size ≤ gb143)); clear HB; have HB := n0_; have BK143 := n1_; have GW143 := n2_; have GE143 := n3_; clear n0_ n1_ n2_ n3_; clear hb hbox hg; have hcz3_0 : w2.cell? ⟨gb143, 0, none⟩ = some (.int .i64 a0_0) := (blk_cell BK143.out 0).trans rfl; have hcz3_1 : w2.cell? ⟨gb143, 1, none⟩ = some (.string a0_1) := (blk_cell BK143.out 1).trans rfl; have hcz3_2 : w2.cell? ⟨gb143, 2, none⟩ = some (.slice A0_2 l0_2.length c0_2) := (blk_cell BK143.out 2).trans rfl; have hcz3_3 : w2.cell? ⟨gb143, 3, none⟩ = some (.slice A0_3 l0_3.length c0_3) := (blk_cell BK143.out 3).trans rfl; have hfz3_0 := blk_frozen BK143.out 0; have hfz3_1 := blk_frozen BK143.out 1; have hfz3_2 := blk_frozen BK143.out 2; have hfz3_3 := blk_frozen BK143.out 3))
 try simp only [Act.put, List.setIfInBounds_toArray, List.set_cons_succ, List.set_cons_zero]
 go_loopg [8] k (fun kq v8 w' => ∃ (x8_1 : Int), v8 = .int .i64 x8_1 ∧ Aside0 (spec_KeepsNulls.l0 kq l0_3 (l0_3.length : Int) x8_1 a0_0 a0_1 l0_2 l0_3 = some r) ∧ Aside0 (kq ≤ k) ∧ Aside0 (w'.heap[gb143]? = some (.cells #[.int .i64 a0_0, .string a0_1, (.slice A0_2 l0_2.length c0_2), (.slice A0_3 l0_3.length c0_3)] 25 (0, 0))) ∧ Aside0 (Below w.heap.size w w'))
 case atStart => exact ⟨(0), (by first | rfl | (simp; done) | (simp [*]; done) | (simp; rw [Bool.eq_iff_iff]; simp; done)), H', ⟨Nat.le_refl _⟩, ⟨by (with_reducible repeat (first | refine blk_drewN ?_ _ | refine blk_drew ?_ | refine blk_alloc ?_ _)); exact BK143.out⟩, ⟨by repeat (first | (with_reducible first | exact HB.out | apply below_alloc | apply pw_below_drewN | apply below_drew1 | refine below_set ?_ GE143.out) | exact HB.out)⟩⟩
 case round =>
  clear H'
  (try clear c1); (try clear p2); (try clear hcz3_0); (try clear hcz3_1); (try clear hcz3_2); (try clear hcz3_3); (try clear hfz3_0); (try clear hfz3_1); (try clear hfz3_2); (try clear hfz3_3)
  obtain ⟨x8_1, rfl, HA, HK1, BK143, HB⟩ := hrel
  cases gk with
  | zero => exact absurd HA.out (by simp [spec_KeepsNulls.l0])
  | succ k1 =>
   have H := HA.out
   clear HA
   simp only [spec_KeepsNulls.l0] at H
   by_cases c4 : x8_1 < (l0_3.length : Int)
   ·
    rw [if_pos c4] at H
    have c4b0 : decide (x8_1 < (l0_3.length : Int)) = true := decide_eq_true c4
    clear c4
    by_cases c5 : 0 ≤ x8_1
    ·
     rw [if_pos c5] at H
     have c5b0 : decide (0 ≤ x8_1) = true := decide_eq_true c5
     clear c5
     by_cases c6 : x8_1 < (l0_3.length : Int)
     ·
      rw [if_pos c6] at H
      have c6b0 : decide (x8_1 < (l0_3.length : Int)) = true := decide_eq_true c6
      clear c6
      replace H := Option.bind_eq_some_iff.mp H
      obtain ⟨t146, A70, H⟩ := H
      replace H : (if t146 = true then (some true) else (if a0_0 = 5 then ((spec_NoNulls.f k1 ((rd_T25 l0_3 x8_1).f0) ((rd_T25 l0_3 x8_1).f1) ((rd_T25 l0_3 x8_1).f2) ((rd_T25 l0_3 x8_1).f3)).bind fun t147 => (if t147 = true then (spec_KeepsNulls.l0 k1 l0_3 (l0_3.length : Int) (wrap64 (x8_1 + 1)) a0_0 a0_1 l0_2 l0_3) else (some true))) else (spec_KeepsNulls.l0 k1 l0_3 (l0_3.length : Int) (wrap64 (x8_1 + 1)) a0_0 a0_1 l0_2 l0_3))) = some r := H
      have A7 := Aside0.mk A70
      clear A70
      by_cases c8 : t146 = true
      ·
       subst c8
       have H1 : (some true) = some r := by rw [if_pos rfl] at H; exact H
       clear H
       have H := H1
       clear H1
       obtain rfl := Option.some.inj H
       have p144 : 0 ≤ (x8_1 : Int) := of_decide_eq_true (by first | (with_reducible assumption) | assumption)
       have q144 : x8_1 < (l0_3.length : Int) := of_decide_eq_true (by first | (with_reducible assumption) | assumption)
       obtain ⟨ad144, A144_2, c144_2, A144_3, c144_3, e144, hx144_0, hx144_1, hx144_2, hx144_3, hl144_2, hi144_2, hl144_3, hi144_3⟩ := at_T25 HR0_3.out x8_1 p144 q144
       cases e144
       replace hx144_0 := (HB.out.cell (World.block_lt_of_cell? w _ hx144_0)).trans hx144_0
       replace hx144_1 := (HB.out.cell (World.block_lt_of_cell? w _ hx144_1)).trans hx144_1
       replace hx144_2 := (HB.out.cell (World.block_lt_of_cell? w _ hx144_2)).trans hx144_2
       replace hx144_3 := (HB.out.cell (World.block_lt_of_cell? w _ hx144_3)).trans hx144_3
       have HR144_2 := Aside0.mk hi144_2
       have HC144_2 := Aside0.mk hl144_2
       clear hi144_2 hl144_2
       have HR144_3 := Aside0.mk hi144_3
       have HC144_3 := Aside0.mk hl144_3
       clear hi144_3 hl144_3
       replace p144 := eq_true p144
       replace q144 := eq_true q144
       go_wp2_with (first | ((with_reducible refine gate_dst (N := 4) rfl ?_); refine box_event ?hg (N := 4) ?hd (cs := #[.int .i64 0, .string (⟨#[]⟩ : ByteArray), .slice none 0 0, .slice none 0 0]) (t := 25) ?hr ?_; (case hd => rfl); (case hg => rfl); (case hr => first | (go_simp; done) | (go_simp; rfl)); intro gb145 hg w9 hbox hb; have n0_ := Aside0.mk (blk_below (g := gb143) (o := .cells #[.int .i64 a0_0, .string a0_1, .slice A0_2 l0_2.length c0_2, .slice (some ad144) l0_3.length c0_3] 25 (0, 0)) (by (with_reducible repeat (first | refine blk_drewN ?_ _ | refine blk_drew ?_ | refine blk_alloc ?_ _)); exact BK143.out) hb); have n1_ := Aside0.mk (below_step (by repeat (first | (with_reducible first | exact HB.out | apply below_alloc | apply pw_below_drewN | apply below_drew1 | refine below_set ?_ GE143.out) | exact HB.out)) hb); have n2_ := Aside0.mk (hbox); have n3_ := Aside0.mk ((by rw [hg]; exact (below_size (by repeat (first | (with_reducible first | exact HB.out | apply below_alloc | apply pw_below_drewN | apply below_drew1 | refine below_set ?_ GE143.out) | exact HB.out))) : w.heap.size ≤ gb145)); have n4_ := Aside0.mk ((by rw [hg]; exact (below_size (by repeat (first | (with_reducible first | exact HB.out | apply below_alloc | apply pw_below_drewN | apply below_drew1 | refine below_set ?_ GE143.out) | exact HB.out))) : w.heap.size ≤ gb145)); have n5_ := Aside0.mk ((by rw [hg]; exact Nat.ne_of_lt (blk_lt (g := gb143) (o := .cells #[.int .i64 a0_0, .string a0_1, .slice A0_2 l0_2.length c0_2, .slice (some ad144) l0_3.length c0_3] 25 (0, 0)) (by (with_reducible repeat (first | refine blk_drewN ?_ _ | refine blk_drew ?_ | refine blk_alloc ?_ _)); exact BK143.out)) : gb143 ≠ gb145)); have n6_ := Aside0.mk ((by rw [hg]; exact Nat.ne_of_gt (blk_lt (g := gb143) (o := .cells #[.int .i64 a0_0, .string a0_1, .slice A0_2 l0_2.length c0_2, .slice (some ad144) l0_3.length c0_3] 25 (0, 0)) (by (with_reducible repeat (first | refine blk_drewN ?_ _ | refine blk_drew ?_ | refine blk_alloc ?_ _)); exact BK143.out)) : gb145 ≠ gb143)); clear BK143; clear HB; have BK143 := n0_; have HB := n1_; have BK145 := n2_; have GW145 := n3_; have GE145 := n4_; have NB143_145 := n5_; have NB145_143 := n6_; clear n0_ n1_ n2_ n3_ n4_ n5_ n6_; clear hb hbox hg; have hnb10 := NB145_143.out; have hnc10 := NB143_145.out; have hcz11_0 : w9.cell? ⟨gb145, 0, none⟩ = some (.int .i64 0) := (blk_cell BK145.out 0).trans rfl; have hcz11_1 : w9.cell? ⟨gb145, 1, none⟩ = some (.string (⟨#[]⟩ : ByteArray)) := (blk_cell BK145.out 1).trans rfl; have hcz11_2 : w9.cell? ⟨gb145, 2, none⟩ = some (.slice none 0 0) := (blk_cell BK145.out 2).trans rfl; have hcz11_3 : w9.cell? ⟨gb145, 3, none⟩ = some (.slice none 0 0) := (blk_cell BK145.out 3).trans rfl; have hfz11_0 := blk_frozen BK145.out 0; have hfz11_1 := blk_frozen BK145.out 1; have hfz11_2 := blk_frozen BK145.out 2; have hfz11_3 := blk_frozen BK145.out 3) | ((with_reducible refine gate_callee (f := 18) rfl ?_); refine goesL_ (some 13) rfl rfl Tryd.func18 (by kernel_rfl) rfl #[.agg #[.int .i64 ((rd_T25 l0_3 x8_1).f0), .string ((rd_T25 l0_3 x8_1).f1), .slice A144_2 ((rd_T25 l0_3 x8_1).f2).length c144_2, .slice A144_3 ((rd_T25 l0_3 x8_1).f3).length c144_3]] rfl (by (try simp only [List.map_toArray, List.map_cons, List.map_nil]); first | done | rfl | (simp only [List.length_drop, List.length_take]; rfl)) ?_; (with_reducible refine (ih k1 (by have := HK1.out; omega) ((rd_T25 l0_3 x8_1).f0) ((rd_T25 l0_3 x8_1).f1) _ _ ((rd_T25 l0_3 x8_1).f2) _ _ ((rd_T25 l0_3 x8_1).f3) true _ ?side1 ?side2 ?side3 ?side4 A7.out).mono ?_); (case side1 => exact Kd.C_below HR144_2.out (by repeat (first | (with_reducible first | exact HB.out | apply below_alloc | apply pw_below_drewN | apply below_drew1 | refine below_set ?_ GE143.out | refine below_set ?_ GE145.out) | exact HB.out))); (case side2 => exact HC144_2.out); (case side3 => exact Kd.C_below HR144_3.out (by repeat (first | (with_reducible first | exact HB.out | apply below_alloc | apply pw_below_drewN | apply below_drew1 | refine below_set ?_ GE143.out | refine below_set ?_ GE145.out) | exact HB.out))); (case side4 => exact HC144_3.out); rintro e w12 ⟨rfl, hb⟩; refine ⟨_, rfl, ?_⟩; have n0_ := Aside0.mk (blk_below (g := gb143) (o := .cells #[.int .i64 a0_0, .string a0_1, .slice A0_2 l0_2.length c0_2, .slice (some ad144) l0_3.length c0_3] 25 (0, 0)) (by (with_reducible repeat (first | refine blk_drewN ?_ _ | refine blk_drew ?_ | refine blk_alloc ?_ _)); refine blk_far ?_ NB143_145.out _; (with_reducible repeat (first | refine blk_drewN ?_ _ | refine blk_drew ?_ | refine blk_alloc ?_ _)); refine blk_far ?_ NB143_145.out _; (with_reducible repeat (first | refine blk_drewN ?_ _ | refine blk_drew ?_ | refine blk_alloc ?_ _)); refine blk_far ?_ NB143_145.out _; (with_reducible repeat (first | refine blk_drewN ?_ _ | refine blk_drew ?_ | refine blk_alloc ?_ _)); refine blk_far ?_ NB143_145.out _; (with_reducible repeat (first | refine blk_drewN ?_ _ | refine blk_drew ?_ | refine blk_alloc ?_ _)); exact BK143.out) hb); have n1_ := Aside0.mk (blk_below (g := gb145) (o := .cells #[.int .i64 ((rd_T25 l0_3 x8_1).f0), .string ((rd_T25 l0_3 x8_1).f1), .slice A144_2 ((rd_T25 l0_3 x8_1).f2).length c144_2, .slice A144_3 ((rd_T25 l0_3 x8_1).f3).length c144_3] 25 (0, 0)) (by (with_reducible repeat (first | refine blk_drewN ?_ _ | refine blk_drew ?_ | refine blk_alloc ?_ _)); refine blk_put (cs := #[.int .i64 ((rd_T25 l0_3 x8_1).f0), .string ((rd_T25 l0_3 x8_1).f1), .slice A144_2 ((rd_T25 l0_3 x8_1).f2).length c144_2, .slice none 0 0]) ?_ 3 _ rfl; (with_reducible repeat (first | refine blk_drewN ?_ _ | refine blk_drew ?_ | refine blk_alloc ?_ _)); refine blk_put (cs := #[.int .i64 ((rd_T25 l0_3 x8_1).f0), .string ((rd_T25 l0_3 x8_1).f1), .slice none 0 0, .slice none 0 0]) ?_ 2 _ rfl; (with_reducible repeat (first | refine blk_drewN ?_ _ | refine blk_drew ?_ | refine blk_alloc ?_ _)); refine blk_put (cs := #[.int .i64 ((rd_T25 l0_3 x8_1).f0), .string (⟨#[]⟩ : ByteArray), .slice none 0 0, .slice none 0 0]) ?_ 1 _ rfl; (with_reducible repeat (first | refine blk_drewN ?_ _ | refine blk_drew ?_ | refine blk_alloc ?_ _)); refine blk_put (cs := #[.int .i64 0, .string (⟨#[]⟩ : ByteArray), .slice none 0 0, .slice none 0 0]) ?_ 0 _ rfl; (with_reducible repeat (first | refine blk_drewN ?_ _ | refine blk_drew ?_ | refine blk_alloc ?_ _)); exact BK145.out) hb); have n2_ := Aside0.mk (below_step (by repeat (first | (with_reducible first | exact HB.out | apply below_alloc | apply pw_below_drewN | apply below_drew1 | refine below_set ?_ GE143.out | refine below_set ?_ GE145.out) | exact HB.out)) hb); clear BK143; clear BK145; clear HB; have BK143 := n0_; have BK145 := n1_; have HB := n2_; clear n0_ n1_ n2_; (try clear hb); (try clear hb2); (try clear hk); (try clear hi)))
       go_ret
       exact ⟨by first | rfl | (simp [errW_none, errW_some] <;> rfl) | (simp [*, errW_none, errW_some] <;> rfl), by repeat (first | (with_reducible first | exact HB.out | apply below_alloc | apply pw_below_drewN | apply below_drew1 | refine below_set ?_ GE143.out | refine below_set ?_ GE145.out) | exact HB.out)⟩
      ·
       replace c8 := Bool.eq_false_iff.mpr c8
       subst c8
       have H1 : (if a0_0 = 5 then ((spec_NoNulls.f k1 ((rd_T25 l0_3 x8_1).f0) ((rd_T25 l0_3 x8_1).f1) ((rd_T25 l0_3 x8_1).f2) ((rd_T25 l0_3 x8_1).f3)).bind fun t147 => (if t147 = true then (spec_KeepsNulls.l0 k1 l0_3 (l0_3.length : Int) (wrap64 (x8_1 + 1)) a0_0 a0_1 l0_2 l0_3) else (some true))) else (spec_KeepsNulls.l0 k1 l0_3 (l0_3.length : Int) (wrap64 (x8_1 + 1)) a0_0 a0_1 l0_2 l0_3)) = some r := by rw [if_neg (show ¬ (false = true) by decide)] at H; exact H
       clear H
       have H := H1
       clear H1
       by_cases c13 : a0_0 = 5
       ·
        rw [if_pos c13] at H
        have c13b0 : (a0_0 == 5) = true := beq_iff_eq.mpr c13
        have c13b1 : (a0_0 != 5) = false := bne_eq_false_iff_eq.mpr c13
        clear c13
        replace H := Option.bind_eq_some_iff.mp H
        obtain ⟨t147, A140, H⟩ := H
        replace H : (if t147 = true then (spec_KeepsNulls.l0 k1 l0_3 (l0_3.length : Int) (wrap64 (x8_1 + 1)) a0_0 a0_1 l0_2 l0_3) else (some true)) = some r := H
        have A14 := Aside0.mk A140
        clear A140
        by_cases c15 : t147 = true
        ·
         subst c15
         have H1 : (spec_KeepsNulls.l0 k1 l0_3 (l0_3.length : Int) (wrap64 (x8_1 + 1)) a0_0 a0_1 l0_2 l0_3) = some r := by rw [if_pos rfl] at H; exact H
         clear H
         have H := H1
         clear H1
         have H' := Aside0.mk H
         clear H
         have p144 : 0 ≤ (x8_1 : Int) := of_decide_eq_true (by first | (with_reducible assumption) | assumption)
         have q144 : x8_1 < (l0_3.length : Int) := of_decide_eq_true (by first | (with_reducible assumption) | assumption)
         obtain ⟨ad144, A144_2, c144_2, A144_3, c144_3, e144, hx144_0, hx144_1, hx144_2, hx144_3, hl144_2, hi144_2, hl144_3, hi144_3⟩ := at_T25 HR0_3.out x8_1 p144 q144
         cases e144
         replace hx144_0 := (HB.out.cell (World.block_lt_of_cell? w _ hx144_0)).trans hx144_0
         replace hx144_1 := (HB.out.cell (World.block_lt_of_cell? w _ hx144_1)).trans hx144_1
         replace hx144_2 := (HB.out.cell (World.block_lt_of_cell? w _ hx144_2)).trans hx144_2
         replace hx144_3 := (HB.out.cell (World.block_lt_of_cell? w _ hx144_3)).trans hx144_3
         have HR144_2 := Aside0.mk hi144_2
         have HC144_2 := Aside0.mk hl144_2
         clear hi144_2 hl144_2
         have HR144_3 := Aside0.mk hi144_3
         have HC144_3 := Aside0.mk hl144_3
         clear hi144_3 hl144_3
         replace p144 := eq_true p144
         replace q144 := eq_true q144
         go_wp2_with (first | ((with_reducible refine gate_dst (N := 4) rfl ?_); refine box_event ?hg (N := 4) ?hd (cs := #[.int .i64 0, .string (⟨#[]⟩ : ByteArray), .slice none 0 0, .slice none 0 0]) (t := 25) ?hr ?_; (case hd => rfl); (case hg => rfl); (case hr => first | (go_simp; done) | (go_simp; rfl)); intro gb145 hg w16 hbox hb; have n0_ := Aside0.mk (blk_below (g := gb143) (o := .cells #[.int .i64 a0_0, .string a0_1, .slice A0_2 l0_2.length c0_2, .slice (some ad144) l0_3.length c0_3] 25 (0, 0)) (by (with_reducible repeat (first | refine blk_drewN ?_ _ | refine blk_drew ?_ | refine blk_alloc ?_ _)); exact BK143.out) hb); have n1_ := Aside0.mk (below_step (by repeat (first | (with_reducible first | exact HB.out | apply below_alloc | apply pw_below_drewN | apply below_drew1 | refine below_set ?_ GE143.out) | exact HB.out)) hb); have n2_ := Aside0.mk (hbox); have n3_ := Aside0.mk ((by rw [hg]; exact (below_size (by repeat (first | (with_reducible first | exact HB.out | apply below_alloc | apply pw_below_drewN | apply below_drew1 | refine below_set ?_ GE143.out) | exact HB.out))) : w.heap.size ≤ gb145)); have n4_ := Aside0.mk ((by rw [hg]; exact (below_size (by repeat (first | (with_reducible first | exact HB.out | apply below_alloc | apply pw_below_drewN | apply below_drew1 | refine below_set ?_ GE143.out) | exact HB.out))) : w.heap.size ≤ gb145)); have n5_ := Aside0.mk ((by rw [hg]; exact Nat.ne_of_lt (blk_lt (g := gb143) (o := .cells #[.int .i64 a0_0, .string a0_1, .slice A0_2 l0_2.length c0_2, .slice (some ad144) l0_3.length c0_3] 25 (0, 0)) (by (with_reducible repeat (first | refine blk_drewN ?_ _ | refine blk_drew ?_ | refine blk_alloc ?_ _)); exact BK143.out)) : gb143 ≠ gb145)); have n6_ := Aside0.mk ((by rw [hg]; exact Nat.ne_of_gt (blk_lt (g := gb143) (o := .cells #[.int .i64 a0_0, .string a0_1, .slice A0_2 l0_2.length c0_2, .slice (some ad144) l0_3.length c0_3] 25 (0, 0)) (by (with_reducible repeat (first | refine blk_drewN ?_ _ | refine blk_drew ?_ | refine blk_alloc ?_ _)); exact BK143.out)) : gb145 ≠ gb143)); clear BK143; clear HB; have BK143 := n0_; have HB := n1_; have BK145 := n2_; have GW145 := n3_; have GE145 := n4_; have NB143_145 := n5_; have NB145_143 := n6_; clear n0_ n1_ n2_ n3_ n4_ n5_ n6_; clear hb hbox hg; have hnb17 := NB145_143.out; have hnc17 := NB143_145.out; have hcz18_0 : w16.cell? ⟨gb145, 0, none⟩ = some (.int .i64 0) := (blk_cell BK145.out 0).trans rfl; have hcz18_1 : w16.cell? ⟨gb145, 1, none⟩ = some (.string (⟨#[]⟩ : ByteArray)) := (blk_cell BK145.out 1).trans rfl; have hcz18_2 : w16.cell? ⟨gb145, 2, none⟩ = some (.slice none 0 0) := (blk_cell BK145.out 2).trans rfl; have hcz18_3 : w16.cell? ⟨gb145, 3, none⟩ = some (.slice none 0 0) := (blk_cell BK145.out 3).trans rfl; have hfz18_0 := blk_frozen BK145.out 0; have hfz18_1 := blk_frozen BK145.out 1; have hfz18_2 := blk_frozen BK145.out 2; have hfz18_3 := blk_frozen BK145.out 3) | ((with_reducible refine gate_callee (f := 18) rfl ?_); refine goesL_ (some 13) rfl rfl Tryd.func18 (by kernel_rfl) rfl #[.agg #[.int .i64 ((rd_T25 l0_3 x8_1).f0), .string ((rd_T25 l0_3 x8_1).f1), .slice A144_2 ((rd_T25 l0_3 x8_1).f2).length c144_2, .slice A144_3 ((rd_T25 l0_3 x8_1).f3).length c144_3]] rfl (by (try simp only [List.map_toArray, List.map_cons, List.map_nil]); first | done | rfl | (simp only [List.length_drop, List.length_take]; rfl)) ?_; (with_reducible refine (ih k1 (by have := HK1.out; omega) ((rd_T25 l0_3 x8_1).f0) ((rd_T25 l0_3 x8_1).f1) _ _ ((rd_T25 l0_3 x8_1).f2) _ _ ((rd_T25 l0_3 x8_1).f3) false _ ?side1 ?side2 ?side3 ?side4 A7.out).mono ?_); (case side1 => exact Kd.C_below HR144_2.out (by repeat (first | (with_reducible first | exact HB.out | apply below_alloc | apply pw_below_drewN | apply below_drew1 | refine below_set ?_ GE143.out | refine below_set ?_ GE145.out) | exact HB.out))); (case side2 => exact HC144_2.out); (case side3 => exact Kd.C_below HR144_3.out (by repeat (first | (with_reducible first | exact HB.out | apply below_alloc | apply pw_below_drewN | apply below_drew1 | refine below_set ?_ GE143.out | refine below_set ?_ GE145.out) | exact HB.out))); (case side4 => exact HC144_3.out); rintro e w19 ⟨rfl, hb⟩; refine ⟨_, rfl, ?_⟩; have n0_ := Aside0.mk (blk_below (g := gb143) (o := .cells #[.int .i64 a0_0, .string a0_1, .slice A0_2 l0_2.length c0_2, .slice (some ad144) l0_3.length c0_3] 25 (0, 0)) (by (with_reducible repeat (first | refine blk_drewN ?_ _ | refine blk_drew ?_ | refine blk_alloc ?_ _)); refine blk_far ?_ NB143_145.out _; (with_reducible repeat (first | refine blk_drewN ?_ _ | refine blk_drew ?_ | refine blk_alloc ?_ _)); refine blk_far ?_ NB143_145.out _; (with_reducible repeat (first | refine blk_drewN ?_ _ | refine blk_drew ?_ | refine blk_alloc ?_ _)); refine blk_far ?_ NB143_145.out _; (with_reducible repeat (first | refine blk_drewN ?_ _ | refine blk_drew ?_ | refine blk_alloc ?_ _)); refine blk_far ?_ NB143_145.out _; (with_reducible repeat (first | refine blk_drewN ?_ _ | refine blk_drew ?_ | refine blk_alloc ?_ _)); exact BK143.out) hb); have n1_ := Aside0.mk (blk_below (g := gb145) (o := .cells #[.int .i64 ((rd_T25 l0_3 x8_1).f0), .string ((rd_T25 l0_3 x8_1).f1), .slice A144_2 ((rd_T25 l0_3 x8_1).f2).length c144_2, .slice A144_3 ((rd_T25 l0_3 x8_1).f3).length c144_3] 25 (0, 0)) (by (with_reducible repeat (first | refine blk_drewN ?_ _ | refine blk_drew ?_ | refine blk_alloc ?_ _)); refine blk_put (cs := #[.int .i64 ((rd_T25 l0_3 x8_1).f0), .string ((rd_T25 l0_3 x8_1).f1), .slice A144_2 ((rd_T25 l0_3 x8_1).f2).length c144_2, .slice none 0 0]) ?_ 3 _ rfl; (with_reducible repeat (first | refine blk_drewN ?_ _ | refine blk_drew ?_ | refine blk_alloc ?_ _)); refine blk_put (cs := #[.int .i64 ((rd_T25 l0_3 x8_1).f0), .string ((rd_T25 l0_3 x8_1).f1), .slice none 0 0, .slice none 0 0]) ?_ 2 _ rfl; (with_reducible repeat (first | refine blk_drewN ?_ _ | refine blk_drew ?_ | refine blk_alloc ?_ _)); refine blk_put (cs := #[.int .i64 ((rd_T25 l0_3 x8_1).f0), .string (⟨#[]⟩ : ByteArray), .slice none 0 0, .slice none 0 0]) ?_ 1 _ rfl; (with_reducible repeat (first | refine blk_drewN ?_ _ | refine blk_drew ?_ | refine blk_alloc ?_ _)); refine blk_put (cs := #[.int .i64 0, .string (⟨#[]⟩ : ByteArray), .slice none 0 0, .slice none 0 0]) ?_ 0 _ rfl; (with_reducible repeat (first | refine blk_drewN ?_ _ | refine blk_drew ?_ | refine blk_alloc ?_ _)); exact BK145.out) hb); have n2_ := Aside0.mk (below_step (by repeat (first | (with_reducible first | exact HB.out | apply below_alloc | apply pw_below_drewN | apply below_drew1 | refine below_set ?_ GE143.out | refine below_set ?_ GE145.out) | exact HB.out)) hb); clear BK143; clear BK145; clear HB; have BK143 := n0_; have BK145 := n1_; have HB := n2_; clear n0_ n1_ n2_; (try clear hb); (try clear hb2); (try clear hk); (try clear hi); have hcz20_0 : w19.cell? ⟨gb143, 0, none⟩ = some (.int .i64 a0_0) := (blk_cell BK143.out 0).trans rfl; have hcz20_1 : w19.cell? ⟨gb143, 1, none⟩ = some (.string a0_1) := (blk_cell BK143.out 1).trans rfl; have hcz20_2 : w19.cell? ⟨gb143, 2, none⟩ = some (.slice A0_2 l0_2.length c0_2) := (blk_cell BK143.out 2).trans rfl; have hcz20_3 : w19.cell? ⟨gb143, 3, none⟩ = some (.slice (some ad144) l0_3.length c0_3) := (blk_cell BK143.out 3).trans rfl; have hfz20_0 := blk_frozen BK143.out 0; have hfz20_1 := blk_frozen BK143.out 1; have hfz20_2 := blk_frozen BK143.out 2; have hfz20_3 := blk_frozen BK143.out 3; have hcz21_0 : w19.cell? ⟨gb145, 0, none⟩ = some (.int .i64 ((rd_T25 l0_3 x8_1).f0)) := (blk_cell BK145.out 0).trans rfl; have hcz21_1 : w19.cell? ⟨gb145, 1, none⟩ = some (.string ((rd_T25 l0_3 x8_1).f1)) := (blk_cell BK145.out 1).trans rfl; have hcz21_2 : w19.cell? ⟨gb145, 2, none⟩ = some (.slice A144_2 ((rd_T25 l0_3 x8_1).f2).length c144_2) := (blk_cell BK145.out 2).trans rfl; have hcz21_3 : w19.cell? ⟨gb145, 3, none⟩ = some (.slice A144_3 ((rd_T25 l0_3 x8_1).f3).length c144_3) := (blk_cell BK145.out 3).trans rfl; have hfz21_0 := blk_frozen BK145.out 0; have hfz21_1 := blk_frozen BK145.out 1; have hfz21_2 := blk_frozen BK145.out 2; have hfz21_3 := blk_frozen BK145.out 3) | (go_at_call 39; (with_reducible refine (spec_NoNulls.calls k1 ((rd_T25 l0_3 x8_1).f0) ((rd_T25 l0_3 x8_1).f1) _ _ ((rd_T25 l0_3 x8_1).f2) _ _ ((rd_T25 l0_3 x8_1).f3) true _ ?side1 ?side2 ?side3 ?side4 A14.out).mono ?_); (case side1 => repeat (first | exact (Kd.C_below HR144_2.out HB.out) | (with_reducible refine Kd.C_alloc ?_ _) | (with_reducible refine Kd.C_drewN ?_ _) | (with_reducible refine Kd.C_drew ?_))); (case side2 => exact HC144_2.out); (case side3 => repeat (first | exact (Kd.C_below HR144_3.out HB.out) | (with_reducible refine Kd.C_alloc ?_ _) | (with_reducible refine Kd.C_drewN ?_ _) | (with_reducible refine Kd.C_drew ?_))); (case side4 => exact HC144_3.out); rintro e w22 ⟨rfl, hb⟩; have n0_ := Aside0.mk (blk_below (g := gb143) (o := .cells #[.int .i64 a0_0, .string a0_1, .slice A0_2 l0_2.length c0_2, .slice (some ad144) l0_3.length c0_3] 25 (0, 0)) (by (with_reducible repeat (first | refine blk_drewN ?_ _ | refine blk_drew ?_ | refine blk_alloc ?_ _)); exact BK143.out) hb); have n1_ := Aside0.mk (blk_below (g := gb145) (o := .cells #[.int .i64 ((rd_T25 l0_3 x8_1).f0), .string ((rd_T25 l0_3 x8_1).f1), .slice A144_2 ((rd_T25 l0_3 x8_1).f2).length c144_2, .slice A144_3 ((rd_T25 l0_3 x8_1).f3).length c144_3] 25 (0, 0)) (by (with_reducible repeat (first | refine blk_drewN ?_ _ | refine blk_drew ?_ | refine blk_alloc ?_ _)); exact BK145.out) hb); have n2_ := Aside0.mk (below_step (by repeat (first | (with_reducible first | exact HB.out | apply below_alloc | apply pw_below_drewN | apply below_drew1 | refine below_set ?_ GE143.out | refine below_set ?_ GE145.out) | exact HB.out)) hb); clear BK143; clear BK145; clear HB; have BK143 := n0_; have BK145 := n1_; have HB := n2_; clear n0_ n1_ n2_; (try clear hb); (try clear hb2); (try clear hk); (try clear hi)))
         go_roundg k1
         case measure => have := HK1.out; omega
         case rel => exact ⟨(wrap64 (x8_1 + 1)), (by first | rfl | (simp; done) | (simp [*]; done) | (simp; rw [Bool.eq_iff_iff]; simp; done)), H', ⟨by have := HK1.out; omega⟩, ⟨by (with_reducible repeat (first | refine blk_drewN ?_ _ | refine blk_drew ?_ | refine blk_alloc ?_ _)); exact BK143.out⟩, ⟨by repeat (first | (with_reducible first | exact HB.out | apply below_alloc | apply pw_below_drewN | apply below_drew1 | refine below_set ?_ GE143.out | refine below_set ?_ GE145.out) | exact HB.out)⟩⟩
        ·
         replace c15 := Bool.eq_false_iff.mpr c15
         subst c15
         have H1 : (some true) = some r := by rw [if_neg (show ¬ (false = true) by decide)] at H; exact H
         clear H
         have H := H1
         clear H1
         obtain rfl := Option.some.inj H
         have p144 : 0 ≤ (x8_1 : Int) := of_decide_eq_true (by first | (with_reducible assumption) | assumption)
         have q144 : x8_1 < (l0_3.length : Int) := of_decide_eq_true (by first | (with_reducible assumption) | assumption)
         obtain ⟨ad144, A144_2, c144_2, A144_3, c144_3, e144, hx144_0, hx144_1, hx144_2, hx144_3, hl144_2, hi144_2, hl144_3, hi144_3⟩ := at_T25 HR0_3.out x8_1 p144 q144
         cases e144
         replace hx144_0 := (HB.out.cell (World.block_lt_of_cell? w _ hx144_0)).trans hx144_0
         replace hx144_1 := (HB.out.cell (World.block_lt_of_cell? w _ hx144_1)).trans hx144_1
         replace hx144_2 := (HB.out.cell (World.block_lt_of_cell? w _ hx144_2)).trans hx144_2
         replace hx144_3 := (HB.out.cell (World.block_lt_of_cell? w _ hx144_3)).trans hx144_3
         have HR144_2 := Aside0.mk hi144_2
         have HC144_2 := Aside0.mk hl144_2
         clear hi144_2 hl144_2
         have HR144_3 := Aside0.mk hi144_3
         have HC144_3 := Aside0.mk hl144_3
         clear hi144_3 hl144_3
         replace p144 := eq_true p144
         replace q144 := eq_true q144
         go_wp2_with (first | ((with_reducible refine gate_dst (N := 4) rfl ?_); refine box_event ?hg (N := 4) ?hd (cs := #[.int .i64 0, .string (⟨#[]⟩ : ByteArray), .slice none 0 0, .slice none 0 0]) (t := 25) ?hr ?_; (case hd => rfl); (case hg => rfl); (case hr => first | (go_simp; done) | (go_simp; rfl)); intro gb145 hg w23 hbox hb; have n0_ := Aside0.mk (blk_below (g := gb143) (o := .cells #[.int .i64 a0_0, .string a0_1, .slice A0_2 l0_2.length c0_2, .slice (some ad144) l0_3.length c0_3] 25 (0, 0)) (by (with_reducible repeat (first | refine blk_drewN ?_ _ | refine blk_drew ?_ | refine blk_alloc ?_ _)); exact BK143.out) hb); have n1_ := Aside0.mk (below_step (by repeat (first | (with_reducible first | exact HB.out | apply below_alloc | apply pw_below_drewN | apply below_drew1 | refine below_set ?_ GE143.out) | exact HB.out)) hb); have n2_ := Aside0.mk (hbox); have n3_ := Aside0.mk ((by rw [hg]; exact (below_size (by repeat (first | (with_reducible first | exact HB.out | apply below_alloc | apply pw_below_drewN | apply below_drew1 | refine below_set ?_ GE143.out) | exact HB.out))) : w.heap.size ≤ gb145)); have n4_ := Aside0.mk ((by rw [hg]; exact (below_size (by repeat (first | (with_reducible first | exact HB.out | apply below_alloc | apply pw_below_drewN | apply below_drew1 | refine below_set ?_ GE143.out) | exact HB.out))) : w.heap.size ≤ gb145)); have n5_ := Aside0.mk ((by rw [hg]; exact Nat.ne_of_lt (blk_lt (g := gb143) (o := .cells #[.int .i64 a0_0, .string a0_1, .slice A0_2 l0_2.length c0_2, .slice (some ad144) l0_3.length c0_3] 25 (0, 0)) (by (with_reducible repeat (first | refine blk_drewN ?_ _ | refine blk_drew ?_ | refine blk_alloc ?_ _)); exact BK143.out)) : gb143 ≠ gb145)); have n6_ := Aside0.mk ((by rw [hg]; exact Nat.ne_of_gt (blk_lt (g := gb143) (o := .cells #[.int .i64 a0_0, .string a0_1, .slice A0_2 l0_2.length c0_2, .slice (some ad144) l0_3.length c0_3] 25 (0, 0)) (by (with_reducible repeat (first | refine blk_drewN ?_ _ | refine blk_drew ?_ | refine blk_alloc ?_ _)); exact BK143.out)) : gb145 ≠ gb143)); clear BK143; clear HB; have BK143 := n0_; have HB := n1_; have BK145 := n2_; have GW145 := n3_; have GE145 := n4_; have NB143_145 := n5_; have NB145_143 := n6_; clear n0_ n1_ n2_ n3_ n4_ n5_ n6_; clear hb hbox hg; have hnb24 := NB145_143.out; have hnc24 := NB143_145.out; have hcz25_0 : w23.cell? ⟨gb145, 0, none⟩ = some (.int .i64 0) := (blk_cell BK145.out 0).trans rfl; have hcz25_1 : w23.cell? ⟨gb145, 1, none⟩ = some (.string (⟨#[]⟩ : ByteArray)) := (blk_cell BK145.out 1).trans rfl; have hcz25_2 : w23.cell? ⟨gb145, 2, none⟩ = some (.slice none 0 0) := (blk_cell BK145.out 2).trans rfl; have hcz25_3 : w23.cell? ⟨gb145, 3, none⟩ = some (.slice none 0 0) := (blk_cell BK145.out 3).trans rfl; have hfz25_0 := blk_frozen BK145.out 0; have hfz25_1 := blk_frozen BK145.out 1; have hfz25_2 := blk_frozen BK145.out 2; have hfz25_3 := blk_frozen BK145.out 3) | ((with_reducible refine gate_callee (f := 18) rfl ?_); refine goesL_ (some 13) rfl rfl Tryd.func18 (by kernel_rfl) rfl #[.agg #[.int .i64 ((rd_T25 l0_3 x8_1).f0), .string ((rd_T25 l0_3 x8_1).f1), .slice A144_2 ((rd_T25 l0_3 x8_1).f2).length c144_2, .slice A144_3 ((rd_T25 l0_3 x8_1).f3).length c144_3]] rfl (by (try simp only [List.map_toArray, List.map_cons, List.map_nil]); first | done | rfl | (simp only [List.length_drop, List.length_take]; rfl)) ?_; (with_reducible refine (ih k1 (by have := HK1.out; omega) ((rd_T25 l0_3 x8_1).f0) ((rd_T25 l0_3 x8_1).f1) _ _ ((rd_T25 l0_3 x8_1).f2) _ _ ((rd_T25 l0_3 x8_1).f3) false _ ?side1 ?side2 ?side3 ?side4 A7.out).mono ?_); (case side1 => exact Kd.C_below HR144_2.out (by repeat (first | (with_reducible first | exact HB.out | apply below_alloc | apply pw_below_drewN | apply below_drew1 | refine below_set ?_ GE143.out | refine below_set ?_ GE145.out) | exact HB.out))); (case side2 => exact HC144_2.out); (case side3 => exact Kd.C_below HR144_3.out (by repeat (first | (with_reducible first | exact HB.out | apply below_alloc | apply pw_below_drewN | apply below_drew1 | refine below_set ?_ GE143.out | refine below_set ?_ GE145.out) | exact HB.out))); (case side4 => exact HC144_3.out); rintro e w26 ⟨rfl, hb⟩; refine ⟨_, rfl, ?_⟩; have n0_ := Aside0.mk (blk_below (g := gb143) (o := .cells #[.int .i64 a0_0, .string a0_1, .slice A0_2 l0_2.length c0_2, .slice (some ad144) l0_3.length c0_3] 25 (0, 0)) (by (with_reducible repeat (first | refine blk_drewN ?_ _ | refine blk_drew ?_ | refine blk_alloc ?_ _)); refine blk_far ?_ NB143_145.out _; (with_reducible repeat (first | refine blk_drewN ?_ _ | refine blk_drew ?_ | refine blk_alloc ?_ _)); refine blk_far ?_ NB143_145.out _; (with_reducible repeat (first | refine blk_drewN ?_ _ | refine blk_drew ?_ | refine blk_alloc ?_ _)); refine blk_far ?_ NB143_145.out _; (with_reducible repeat (first | refine blk_drewN ?_ _ | refine blk_drew ?_ | refine blk_alloc ?_ _)); refine blk_far ?_ NB143_145.out _; (with_reducible repeat (first | refine blk_drewN ?_ _ | refine blk_drew ?_ | refine blk_alloc ?_ _)); exact BK143.out) hb); have n1_ := Aside0.mk (blk_below (g := gb145) (o := .cells #[.int .i64 ((rd_T25 l0_3 x8_1).f0), .string ((rd_T25 l0_3 x8_1).f1), .slice A144_2 ((rd_T25 l0_3 x8_1).f2).length c144_2, .slice A144_3 ((rd_T25 l0_3 x8_1).f3).length c144_3] 25 (0, 0)) (by (with_reducible repeat (first | refine blk_drewN ?_ _ | refine blk_drew ?_ | refine blk_alloc ?_ _)); refine blk_put (cs := #[.int .i64 ((rd_T25 l0_3 x8_1).f0), .string ((rd_T25 l0_3 x8_1).f1), .slice A144_2 ((rd_T25 l0_3 x8_1).f2).length c144_2, .slice none 0 0]) ?_ 3 _ rfl; (with_reducible repeat (first | refine blk_drewN ?_ _ | refine blk_drew ?_ | refine blk_alloc ?_ _)); refine blk_put (cs := #[.int .i64 ((rd_T25 l0_3 x8_1).f0), .string ((rd_T25 l0_3 x8_1).f1), .slice none 0 0, .slice none 0 0]) ?_ 2 _ rfl; (with_reducible repeat (first | refine blk_drewN ?_ _ | refine blk_drew ?_ | refine blk_alloc ?_ _)); refine blk_put (cs := #[.int .i64 ((rd_T25 l0_3 x8_1).f0), .string (⟨#[]⟩ : ByteArray), .slice none 0 0, .slice none 0 0]) ?_ 1 _ rfl; (with_reducible repeat (first | refine blk_drewN ?_ _ | refine blk_drew ?_ | refine blk_alloc ?_ _)); refine blk_put (cs := #[.int .i64 0, .string (⟨#[]⟩ : ByteArray), .slice none 0 0, .slice none 0 0]) ?_ 0 _ rfl; (with_reducible repeat (first | refine blk_drewN ?_ _ | refine blk_drew ?_ | refine blk_alloc ?_ _)); exact BK145.out) hb); have n2_ := Aside0.mk (below_step (by repeat (first | (with_reducible first | exact HB.out | apply below_alloc | apply pw_below_drewN | apply below_drew1 | refine below_set ?_ GE143.out | refine below_set ?_ GE145.out) | exact HB.out)) hb); clear BK143; clear BK145; clear HB; have BK143 := n0_; have BK145 := n1_; have HB := n2_; clear n0_ n1_ n2_; (try clear hb); (try clear hb2); (try clear hk); (try clear hi); have hcz27_0 : w26.cell? ⟨gb143, 0, none⟩ = some (.int .i64 a0_0) := (blk_cell BK143.out 0).trans rfl; have hcz27_1 : w26.cell? ⟨gb143, 1, none⟩ = some (.string a0_1) := (blk_cell BK143.out 1).trans rfl; have hcz27_2 : w26.cell? ⟨gb143, 2, none⟩ = some (.slice A0_2 l0_2.length c0_2) := (blk_cell BK143.out 2).trans rfl; have hcz27_3 : w26.cell? ⟨gb143, 3, none⟩ = some (.slice (some ad144) l0_3.length c0_3) := (blk_cell BK143.out 3).trans rfl; have hfz27_0 := blk_frozen BK143.out 0; have hfz27_1 := blk_frozen BK143.out 1; have hfz27_2 := blk_frozen BK143.out 2; have hfz27_3 := blk_frozen BK143.out 3; have hcz28_0 : w26.cell? ⟨gb145, 0, none⟩ = some (.int .i64 ((rd_T25 l0_3 x8_1).f0)) := (blk_cell BK145.out 0).trans rfl; have hcz28_1 : w26.cell? ⟨gb145, 1, none⟩ = some (.string ((rd_T25 l0_3 x8_1).f1)) := (blk_cell BK145.out 1).trans rfl; have hcz28_2 : w26.cell? ⟨gb145, 2, none⟩ = some (.slice A144_2 ((rd_T25 l0_3 x8_1).f2).length c144_2) := (blk_cell BK145.out 2).trans rfl; have hcz28_3 : w26.cell? ⟨gb145, 3, none⟩ = some (.slice A144_3 ((rd_T25 l0_3 x8_1).f3).length c144_3) := (blk_cell BK145.out 3).trans rfl; have hfz28_0 := blk_frozen BK145.out 0; have hfz28_1 := blk_frozen BK145.out 1; have hfz28_2 := blk_frozen BK145.out 2; have hfz28_3 := blk_frozen BK145.out 3) | (go_at_call 39; (with_reducible refine (spec_NoNulls.calls k1 ((rd_T25 l0_3 x8_1).f0) ((rd_T25 l0_3 x8_1).f1) _ _ ((rd_T25 l0_3 x8_1).f2) _ _ ((rd_T25 l0_3 x8_1).f3) false _ ?side1 ?side2 ?side3 ?side4 A14.out).mono ?_); (case side1 => repeat (first | exact (Kd.C_below HR144_2.out HB.out) | (with_reducible refine Kd.C_alloc ?_ _) | (with_reducible refine Kd.C_drewN ?_ _) | (with_reducible refine Kd.C_drew ?_))); (case side2 => exact HC144_2.out); (case side3 => repeat (first | exact (Kd.C_below HR144_3.out HB.out) | (with_reducible refine Kd.C_alloc ?_ _) | (with_reducible refine Kd.C_drewN ?_ _) | (with_reducible refine Kd.C_drew ?_))); (case side4 => exact HC144_3.out); rintro e w29 ⟨rfl, hb⟩; have n0_ := Aside0.mk (blk_below (g := gb143) (o := .cells #[.int .i64 a0_0, .string a0_1, .slice A0_2 l0_2.length c0_2, .slice (some ad144) l0_3.length c0_3] 25 (0, 0)) (by (with_reducible repeat (first | refine blk_drewN ?_ _ | refine blk_drew ?_ | refine blk_alloc ?_ _)); exact BK143.out) hb); have n1_ := Aside0.mk (blk_below (g := gb145) (o := .cells #[.int .i64 ((rd_T25 l0_3 x8_1).f0), .string ((rd_T25 l0_3 x8_1).f1), .slice A144_2 ((rd_T25 l0_3 x8_1).f2).length c144_2, .slice A144_3 ((rd_T25 l0_3 x8_1).f3).length c144_3] 25 (0, 0)) (by (with_reducible repeat (first | refine blk_drewN ?_ _ | refine blk_drew ?_ | refine blk_alloc ?_ _)); exact BK145.out) hb); have n2_ := Aside0.mk (below_step (by repeat (first | (with_reducible first | exact HB.out | apply below_alloc | apply pw_below_drewN | apply below_drew1 | refine below_set ?_ GE143.out | refine below_set ?_ GE145.out) | exact HB.out)) hb); clear BK143; clear BK145; clear HB; have BK143 := n0_; have BK145 := n1_; have HB := n2_; clear n0_ n1_ n2_; (try clear hb); (try clear hb2); (try clear hk); (try clear hi)))
         go_ret
         exact ⟨by first | rfl | (simp [errW_none, errW_some] <;> rfl) | (simp [*, errW_none, errW_some] <;> rfl), by repeat (first | (with_reducible first | exact HB.out | apply below_alloc | apply pw_below_drewN | apply below_drew1 | refine below_set ?_ GE143.out | refine below_set ?_ GE145.out) | exact HB.out)⟩
       ·
        rw [if_neg c13] at H
        have c13b0 : (a0_0 == 5) = false := beq_eq_false_iff_ne.mpr c13
        have c13b1 : (a0_0 != 5) = true := bne_iff_ne.mpr c13
        have H' := Aside0.mk H
        clear H
        have p144 : 0 ≤ (x8_1 : Int) := of_decide_eq_true (by first | (with_reducible assumption) | assumption)
        have q144 : x8_1 < (l0_3.length : Int) := of_decide_eq_true (by first | (with_reducible assumption) | assumption)
        obtain ⟨ad144, A144_2, c144_2, A144_3, c144_3, e144, hx144_0, hx144_1, hx144_2, hx144_3, hl144_2, hi144_2, hl144_3, hi144_3⟩ := at_T25 HR0_3.out x8_1 p144 q144
        cases e144
        replace hx144_0 := (HB.out.cell (World.block_lt_of_cell? w _ hx144_0)).trans hx144_0
        replace hx144_1 := (HB.out.cell (World.block_lt_of_cell? w _ hx144_1)).trans hx144_1
        replace hx144_2 := (HB.out.cell (World.block_lt_of_cell? w _ hx144_2)).trans hx144_2
        replace hx144_3 := (HB.out.cell (World.block_lt_of_cell? w _ hx144_3)).trans hx144_3
        have HR144_2 := Aside0.mk hi144_2
        have HC144_2 := Aside0.mk hl144_2
        clear hi144_2 hl144_2
        have HR144_3 := Aside0.mk hi144_3
        have HC144_3 := Aside0.mk hl144_3
        clear hi144_3 hl144_3
        replace p144 := eq_true p144
        replace q144 := eq_true q144
        go_wp2_with (first | ((with_reducible refine gate_dst (N := 4) rfl ?_); refine box_event ?hg (N := 4) ?hd (cs := #[.int .i64 0, .string (⟨#[]⟩ : ByteArray), .slice none 0 0, .slice none 0 0]) (t := 25) ?hr ?_; (case hd => rfl); (case hg => rfl); (case hr => first | (go_simp; done) | (go_simp; rfl)); intro gb145 hg w30 hbox hb; have n0_ := Aside0.mk (blk_below (g := gb143) (o := .cells #[.int .i64 a0_0, .string a0_1, .slice A0_2 l0_2.length c0_2, .slice (some ad144) l0_3.length c0_3] 25 (0, 0)) (by (with_reducible repeat (first | refine blk_drewN ?_ _ | refine blk_drew ?_ | refine blk_alloc ?_ _)); exact BK143.out) hb); have n1_ := Aside0.mk (below_step (by repeat (first | (with_reducible first | exact HB.out | apply below_alloc | apply pw_below_drewN | apply below_drew1 | refine below_set ?_ GE143.out) | exact HB.out)) hb); have n2_ := Aside0.mk (hbox); have n3_ := Aside0.mk ((by rw [hg]; exact (below_size (by repeat (first | (with_reducible first | exact HB.out | apply below_alloc | apply pw_below_drewN | apply below_drew1 | refine below_set ?_ GE143.out) | exact HB.out))) : w.heap.size ≤ gb145)); have n4_ := Aside0.mk ((by rw [hg]; exact (below_size (by repeat (first | (with_reducible first | exact HB.out | apply below_alloc | apply pw_below_drewN | apply below_drew1 | refine below_set ?_ GE143.out) | exact HB.out))) : w.heap.size ≤ gb145)); have n5_ := Aside0.mk ((by rw [hg]; exact Nat.ne_of_lt (blk_lt (g := gb143) (o := .cells #[.int .i64 a0_0, .string a0_1, .slice A0_2 l0_2.length c0_2, .slice (some ad144) l0_3.length c0_3] 25 (0, 0)) (by (with_reducible repeat (first | refine blk_drewN ?_ _ | refine blk_drew ?_ | refine blk_alloc ?_ _)); exact BK143.out)) : gb143 ≠ gb145)); have n6_ := Aside0.mk ((by rw [hg]; exact Nat.ne_of_gt (blk_lt (g := gb143) (o := .cells #[.int .i64 a0_0, .string a0_1, .slice A0_2 l0_2.length c0_2, .slice (some ad144) l0_3.length c0_3] 25 (0, 0)) (by (with_reducible repeat (first | refine blk_drewN ?_ _ | refine blk_drew ?_ | refine blk_alloc ?_ _)); exact BK143.out)) : gb145 ≠ gb143)); clear BK143; clear HB; have BK143 := n0_; have HB := n1_; have BK145 := n2_; have GW145 := n3_; have GE145 := n4_; have NB143_145 := n5_; have NB145_143 := n6_; clear n0_ n1_ n2_ n3_ n4_ n5_ n6_; clear hb hbox hg; have hnb31 := NB145_143.out; have hnc31 := NB143_145.out; have hcz32_0 : w30.cell? ⟨gb145, 0, none⟩ = some (.int .i64 0) := (blk_cell BK145.out 0).trans rfl; have hcz32_1 : w30.cell? ⟨gb145, 1, none⟩ = some (.string (⟨#[]⟩ : ByteArray)) := (blk_cell BK145.out 1).trans rfl; have hcz32_2 : w30.cell? ⟨gb145, 2, none⟩ = some (.slice none 0 0) := (blk_cell BK145.out 2).trans rfl; have hcz32_3 : w30.cell? ⟨gb145, 3, none⟩ = some (.slice none 0 0) := (blk_cell BK145.out 3).trans rfl; have hfz32_0 := blk_frozen BK145.out 0; have hfz32_1 := blk_frozen BK145.out 1; have hfz32_2 := blk_frozen BK145.out 2; have hfz32_3 := blk_frozen BK145.out 3) | ((with_reducible refine gate_callee (f := 18) rfl ?_); refine goesL_ (some 13) rfl rfl Tryd.func18 (by kernel_rfl) rfl #[.agg #[.int .i64 ((rd_T25 l0_3 x8_1).f0), .string ((rd_T25 l0_3 x8_1).f1), .slice A144_2 ((rd_T25 l0_3 x8_1).f2).length c144_2, .slice A144_3 ((rd_T25 l0_3 x8_1).f3).length c144_3]] rfl (by (try simp only [List.map_toArray, List.map_cons, List.map_nil]); first | done | rfl | (simp only [List.length_drop, List.length_take]; rfl)) ?_; (with_reducible refine (ih k1 (by have := HK1.out; omega) ((rd_T25 l0_3 x8_1).f0) ((rd_T25 l0_3 x8_1).f1) _ _ ((rd_T25 l0_3 x8_1).f2) _ _ ((rd_T25 l0_3 x8_1).f3) false _ ?side1 ?side2 ?side3 ?side4 A7.out).mono ?_); (case side1 => exact Kd.C_below HR144_2.out (by repeat (first | (with_reducible first | exact HB.out | apply below_alloc | apply pw_below_drewN | apply below_drew1 | refine below_set ?_ GE143.out | refine below_set ?_ GE145.out) | exact HB.out))); (case side2 => exact HC144_2.out); (case side3 => exact Kd.C_below HR144_3.out (by repeat (first | (with_reducible first | exact HB.out | apply below_alloc | apply pw_below_drewN | apply below_drew1 | refine below_set ?_ GE143.out | refine below_set ?_ GE145.out) | exact HB.out))); (case side4 => exact HC144_3.out); rintro e w33 ⟨rfl, hb⟩; refine ⟨_, rfl, ?_⟩; have n0_ := Aside0.mk (blk_below (g := gb143) (o := .cells #[.int .i64 a0_0, .string a0_1, .slice A0_2 l0_2.length c0_2, .slice (some ad144) l0_3.length c0_3] 25 (0, 0)) (by (with_reducible repeat (first | refine blk_drewN ?_ _ | refine blk_drew ?_ | refine blk_alloc ?_ _)); refine blk_far ?_ NB143_145.out _; (with_reducible repeat (first | refine blk_drewN ?_ _ | refine blk_drew ?_ | refine blk_alloc ?_ _)); refine blk_far ?_ NB143_145.out _; (with_reducible repeat (first | refine blk_drewN ?_ _ | refine blk_drew ?_ | refine blk_alloc ?_ _)); refine blk_far ?_ NB143_145.out _; (with_reducible repeat (first | refine blk_drewN ?_ _ | refine blk_drew ?_ | refine blk_alloc ?_ _)); refine blk_far ?_ NB143_145.out _; (with_reducible repeat (first | refine blk_drewN ?_ _ | refine blk_drew ?_ | refine blk_alloc ?_ _)); exact BK143.out) hb); have n1_ := Aside0.mk (blk_below (g := gb145) (o := .cells #[.int .i64 ((rd_T25 l0_3 x8_1).f0), .string ((rd_T25 l0_3 x8_1).f1), .slice A144_2 ((rd_T25 l0_3 x8_1).f2).length c144_2, .slice A144_3 ((rd_T25 l0_3 x8_1).f3).length c144_3] 25 (0, 0)) (by (with_reducible repeat (first | refine blk_drewN ?_ _ | refine blk_drew ?_ | refine blk_alloc ?_ _)); refine blk_put (cs := #[.int .i64 ((rd_T25 l0_3 x8_1).f0), .string ((rd_T25 l0_3 x8_1).f1), .slice A144_2 ((rd_T25 l0_3 x8_1).f2).length c144_2, .slice none 0 0]) ?_ 3 _ rfl; (with_reducible repeat (first | refine blk_drewN ?_ _ | refine blk_drew ?_ | refine blk_alloc ?_ _)); refine blk_put (cs := #[.int .i64 ((rd_T25 l0_3 x8_1).f0), .string ((rd_T25 l0_3 x8_1).f1), .slice none 0 0, .slice none 0 0]) ?_ 2 _ rfl; (with_reducible repeat (first | refine blk_drewN ?_ _ | refine blk_drew ?_ | refine blk_alloc ?_ _)); refine blk_put (cs := #[.int .i64 ((rd_T25 l0_3 x8_1).f0), .string (⟨#[]⟩ : ByteArray), .slice none 0 0, .slice none 0 0]) ?_ 1 _ rfl; (with_reducible repeat (first | refine blk_drewN ?_ _ | refine blk_drew ?_ | refine blk_alloc ?_ _)); refine blk_put (cs := #[.int .i64 0, .string (⟨#[]⟩ : ByteArray), .slice none 0 0, .slice none 0 0]) ?_ 0 _ rfl; (with_reducible repeat (first | refine blk_drewN ?_ _ | refine blk_drew ?_ | refine blk_alloc ?_ _)); exact BK145.out) hb); have n2_ := Aside0.mk (below_step (by repeat (first | (with_reducible first | exact HB.out | apply below_alloc | apply pw_below_drewN | apply below_drew1 | refine below_set ?_ GE143.out | refine below_set ?_ GE145.out) | exact HB.out)) hb); clear BK143; clear BK145; clear HB; have BK143 := n0_; have BK145 := n1_; have HB := n2_; clear n0_ n1_ n2_; (try clear hb); (try clear hb2); (try clear hk); (try clear hi); have hcz34_0 : w33.cell? ⟨gb143, 0, none⟩ = some (.int .i64 a0_0) := (blk_cell BK143.out 0).trans rfl; have hcz34_1 : w33.cell? ⟨gb143, 1, none⟩ = some (.string a0_1) := (blk_cell BK143.out 1).trans rfl; have hcz34_2 : w33.cell? ⟨gb143, 2, none⟩ = some (.slice A0_2 l0_2.length c0_2) := (blk_cell BK143.out 2).trans rfl; have hcz34_3 : w33.cell? ⟨gb143, 3, none⟩ = some (.slice (some ad144) l0_3.length c0_3) := (blk_cell BK143.out 3).trans rfl; have hfz34_0 := blk_frozen BK143.out 0; have hfz34_1 := blk_frozen BK143.out 1; have hfz34_2 := blk_frozen BK143.out 2; have hfz34_3 := blk_frozen BK143.out 3))
        go_roundg k1
        case measure => have := HK1.out; omega
        case rel => exact ⟨(wrap64 (x8_1 + 1)), (by first | rfl | (simp; done) | (simp [*]; done) | (simp; rw [Bool.eq_iff_iff]; simp; done)), H', ⟨by have := HK1.out; omega⟩, ⟨by (with_reducible repeat (first | refine blk_drewN ?_ _ | refine blk_drew ?_ | refine blk_alloc ?_ _)); exact BK143.out⟩, ⟨by repeat (first | (with_reducible first | exact HB.out | apply below_alloc | apply pw_below_drewN | apply below_drew1 | refine below_set ?_ GE143.out | refine below_set ?_ GE145.out) | exact HB.out)⟩⟩
     ·
      rw [if_neg c6] at H
      exact absurd H (by simp)
    ·
     rw [if_neg c5] at H
     exact absurd H (by simp)
   ·
    rw [if_neg c4] at H
    have c4b0 : decide (x8_1 < (l0_3.length : Int)) = false := decide_eq_false c4
    clear c4
    obtain rfl := Option.some.inj H
    go_wp2
    go_ret
    exact ⟨by first | rfl | (simp [errW_none, errW_some] <;> rfl) | (simp [*, errW_none, errW_some] <;> rfl), by repeat (first | (with_reducible first | exact HB.out | apply below_alloc | apply pw_below_drewN | apply below_drew1 | refine below_set ?_ GE143.out) | exact HB.out)⟩

/-! ### laws_paMerges: function 6 -/
def laws_paMerges.f (k : Nat) (a0_0 : Int) (a0_1 : ByteArray) (l0_2 : List ByteArray) (l0_3 : List (S25)) (a1_0 : Int) (a1_1 : ByteArray) (l1_2 : List ByteArray) (l1_3 : List (S25)) : Option (Bool) := if a0_0 = 6 then (if a1_0 = 6 then ((laws_paValue.f k a0_0 a0_1 l0_2 l0_3).bind fun t150 => (if t150 = true then ((laws_paValue.f k a1_0 a1_1 l1_2 l1_3).bind fun t151 => (if t151 = true then ((spec_KeepsNulls.f k a1_0 a1_1 l1_2 l1_3).bind fun t152 => (some (!t152))) else (some false))) else (some false))) else (some false)) else (some false)
theorem laws_paMerges.mono : ∀ a0 a1 a2 a3 a4 a5 a6 a7 k, LeO (laws_paMerges.f k a0 a1 a2 a3 a4 a5 a6 a7) (laws_paMerges.f (k + 1) a0 a1 a2 a3 a4 a5 a6 a7) := by
 intro a0 a1 a2 a3 a4 a5 a6 a7 k
 unfold laws_paMerges.f
 repeat' first
   | (with_reducible exact laws_paValue.mono _ _ _ _ _)
   | (with_reducible exact spec_KeepsNulls.mono _ _ _ _ _)
   | (with_reducible exact LeO.refl _)
   | (with_reducible exact LeO.none _)
   | (with_reducible refine LeO.ite ?_ ?_)
   | (with_reducible refine LeO.bind ?_ (fun _ => ?_))
   | exact laws_paValue.mono _ _ _ _ _
   | exact spec_KeepsNulls.mono _ _ _ _ _
   | exact LeO.none _
   | refine LeO.ite ?_ ?_
   | refine LeO.bind ?_ (fun _ => ?_)
set_option maxHeartbeats 8000000 in
set_option maxRecDepth 100000 in
theorem laws_paMerges.calls (k : Nat) (a0_0 : Int) (a0_1 : ByteArray) (A0_2 : Option Addr) (c0_2 : Nat) (l0_2 : List ByteArray) (A0_3 : Option Addr) (c0_3 : Nat) (l0_3 : List (S25)) (a1_0 : Int) (a1_1 : ByteArray) (A1_2 : Option Addr) (c1_2 : Nat) (l1_2 : List ByteArray) (A1_3 : Option Addr) (c1_3 : Nat) (l1_3 : List (S25)) (r : Bool) (w : World) (hr0_2 : Kd.C Kd.string w A0_2 l0_2.length l0_2) (hc0_2 : l0_2.length ≤ c0_2) (hr0_3 : Kd.C k25 w A0_3 l0_3.length l0_3) (hc0_3 : l0_3.length ≤ c0_3) (hr1_2 : Kd.C Kd.string w A1_2 l1_2.length l1_2) (hc1_2 : l1_2.length ≤ c1_2) (hr1_3 : Kd.C k25 w A1_3 l1_3.length l1_3) (hc1_3 : l1_3.length ≤ c1_3) (h : laws_paMerges.f k a0_0 a0_1 l0_2 l0_3 a1_0 a1_1 l1_2 l1_3 = some r) :
  Calls Tryd.prog 6 #[.agg #[.int .i64 a0_0, .string a0_1, .slice A0_2 l0_2.length c0_2, .slice A0_3 l0_3.length c0_3], .agg #[.int .i64 a1_0, .string a1_1, .slice A1_2 l1_2.length c1_2, .slice A1_3 l1_3.length c1_3]] w fun e w' => e = .returned (.bool r) ∧ Below w.heap.size w w' := by
 have hu25 := Tryd.underlying25
 have HR0_2 := Aside0.mk hr0_2
 have HC0_2 := Aside0.mk hc0_2
 clear hr0_2 hc0_2
 have HR0_3 := Aside0.mk hr0_3
 have HC0_3 := Aside0.mk hc0_3
 clear hr0_3 hc0_3
 have HR1_2 := Aside0.mk hr1_2
 have HC1_2 := Aside0.mk hc1_2
 clear hr1_2 hc1_2
 have HR1_3 := Aside0.mk hr1_3
 have HC1_3 := Aside0.mk hc1_3
 clear hr1_3 hc1_3
 have HB := Aside0.mk (Below.refl w.heap.size w)
 have H : (if a0_0 = 6 then (if a1_0 = 6 then ((laws_paValue.f k a0_0 a0_1 l0_2 l0_3).bind fun t150 => (if t150 = true then ((laws_paValue.f k a1_0 a1_1 l1_2 l1_3).bind fun t151 => (if t151 = true then ((spec_KeepsNulls.f k a1_0 a1_1 l1_2 l1_3).bind fun t152 => (some (!t152))) else (some false))) else (some false))) else (some false)) else (some false)) = some r := h
 clear h
 by_cases c3 : a0_0 = 6
 ·
  rw [if_pos c3] at H
  have c3b0 : (a0_0 == 6) = true := beq_iff_eq.mpr c3
  have c3b1 : (a0_0 != 6) = false := bne_eq_false_iff_eq.mpr c3
  clear c3
  by_cases c4 : a1_0 = 6
  ·
   rw [if_pos c4] at H
   have c4b0 : (a1_0 == 6) = true := beq_iff_eq.mpr c4
   have c4b1 : (a1_0 != 6) = false := bne_eq_false_iff_eq.mpr c4
   clear c4
   replace H := Option.bind_eq_some_iff.mp H
   obtain ⟨t150, A50, H⟩ := H
   replace H : (if t150 = true then ((laws_paValue.f k a1_0 a1_1 l1_2 l1_3).bind fun t151 => (if t151 = true then ((spec_KeepsNulls.f k a1_0 a1_1 l1_2 l1_3).bind fun t152 => (some (!t152))) else (some false))) else (some false)) = some r := H
   have A5 := Aside0.mk A50
   clear A50
   by_cases c6 : t150 = true
   ·
    subst c6
    have H1 : ((laws_paValue.f k a1_0 a1_1 l1_2 l1_3).bind fun t151 => (if t151 = true then ((spec_KeepsNulls.f k a1_0 a1_1 l1_2 l1_3).bind fun t152 => (some (!t152))) else (some false))) = some r := by rw [if_pos rfl] at H; exact H
    clear H
    have H := H1
    clear H1
    replace H := Option.bind_eq_some_iff.mp H
    obtain ⟨t151, A70, H⟩ := H
    replace H : (if t151 = true then ((spec_KeepsNulls.f k a1_0 a1_1 l1_2 l1_3).bind fun t152 => (some (!t152))) else (some false)) = some r := H
    have A7 := Aside0.mk A70
    clear A70
    by_cases c8 : t151 = true
    ·
     subst c8
     have H1 : ((spec_KeepsNulls.f k a1_0 a1_1 l1_2 l1_3).bind fun t152 => (some (!t152))) = some r := by rw [if_pos rfl] at H; exact H
     clear H
     have H := H1
     clear H1
     replace H := Option.bind_eq_some_iff.mp H
     obtain ⟨t152, A90, H⟩ := H
     replace H : (some (!t152)) = some r := H
     have A9 := Aside0.mk A90
     clear A90
     obtain rfl := Option.some.inj H
     go_enter Tryd.func6, Tryd.ntmps6
     go_wp2_with (first | ((with_reducible refine gate_dst (N := 2) rfl ?_); refine box_event ?hg (N := 2) ?hd (cs := #[.int .i64 a0_0, .string a0_1, .slice A0_2 l0_2.length c0_2, .slice A0_3 l0_3.length c0_3]) (t := 25) ?hr ?_; (case hd => rfl); (case hg => rfl); (case hr => first | (go_simp; done) | (go_simp; rfl)); intro gb148 hg w10 hbox hb; have n0_ := Aside0.mk (below_step (by repeat (first | (with_reducible first | exact HB.out | apply below_alloc | apply pw_below_drewN | apply below_drew1) | exact HB.out)) hb); have n1_ := Aside0.mk (hbox); have n2_ := Aside0.mk ((by rw [hg]; exact (below_size (by repeat (first | (with_reducible first | exact HB.out | apply below_alloc | apply pw_below_drewN | apply below_drew1) | exact HB.out))) : w.heap.size ≤ gb148)); have n3_ := Aside0.mk ((by rw [hg]; exact (below_size (by repeat (first | (with_reducible first | exact HB.out | apply below_alloc | apply pw_below_drewN | apply below_drew1) | exact HB.out))) : w.heap.size ≤ gb148)); clear HB; have HB := n0_; have BK148 := n1_; have GW148 := n2_; have GE148 := n3_; clear n0_ n1_ n2_ n3_; clear hb hbox hg) | ((with_reducible refine gate_dst (N := 3) rfl ?_); refine box_event ?hg (N := 3) ?hd (cs := #[.int .i64 a1_0, .string a1_1, .slice A1_2 l1_2.length c1_2, .slice A1_3 l1_3.length c1_3]) (t := 25) ?hr ?_; (case hd => rfl); (case hg => rfl); (case hr => first | (go_simp; done) | (go_simp; rfl)); intro gb149 hg w11 hbox hb; have n0_ := Aside0.mk (blk_below (g := gb148) (o := .cells #[.int .i64 a0_0, .string a0_1, .slice A0_2 l0_2.length c0_2, .slice A0_3 l0_3.length c0_3] 25 (0, 0)) (by (with_reducible repeat (first | refine blk_drewN ?_ _ | refine blk_drew ?_ | refine blk_alloc ?_ _)); exact BK148.out) hb); have n1_ := Aside0.mk (below_step (by repeat (first | (with_reducible first | exact HB.out | apply below_alloc | apply pw_below_drewN | apply below_drew1 | refine below_set ?_ GE148.out) | exact HB.out)) hb); have n2_ := Aside0.mk (hbox); have n3_ := Aside0.mk ((by rw [hg]; exact (below_size (by repeat (first | (with_reducible first | exact HB.out | apply below_alloc | apply pw_below_drewN | apply below_drew1 | refine below_set ?_ GE148.out) | exact HB.out))) : w.heap.size ≤ gb149)); have n4_ := Aside0.mk ((by rw [hg]; exact (below_size (by repeat (first | (with_reducible first | exact HB.out | apply below_alloc | apply pw_below_drewN | apply below_drew1 | refine below_set ?_ GE148.out) | exact HB.out))) : w.heap.size ≤ gb149)); have n5_ := Aside0.mk ((by rw [hg]; exact Nat.ne_of_lt (blk_lt (g := gb148) (o := .cells #[.int .i64 a0_0, .string a0_1, .slice A0_2 l0_2.length c0_2, .slice A0_3 l0_3.length c0_3] 25 (0, 0)) (by (with_reducible repeat (first | refine blk_drewN ?_ _ | refine blk_drew ?_ | refine blk_alloc ?_ _)); exact BK148.out)) : gb148 ≠ gb149)); have n6_ := Aside0.mk ((by rw [hg]; exact Nat.ne_of_gt (blk_lt (g := gb148) (o := .cells #[.int .i64 a0_0, .string a0_1, .slice A0_2 l0_2.length c0_2, .slice A0_3 l0_3.length c0_3] 25 (0, 0)) (by (with_reducible repeat (first | refine blk_drewN ?_ _ | refine blk_drew ?_ | refine blk_alloc ?_ _)); exact BK148.out)) : gb149 ≠ gb148)); clear BK148; clear HB; have BK148 := n0_; have HB := n1_; have BK149 := n2_; have GW149 := n3_; have GE149 := n4_; have NB148_149 := n5_; have NB149_148 := n6_; clear n0_ n1_ n2_ n3_ n4_ n5_ n6_; clear hb hbox hg; have hnb12 := NB148_149.out; have hnc12 := NB149_148.out; have hcz13_0 : w11.cell? ⟨gb148, 0, none⟩ = some (.int .i64 a0_0) := (blk_cell BK148.out 0).trans rfl; have hcz13_1 : w11.cell? ⟨gb148, 1, none⟩ = some (.string a0_1) := (blk_cell BK148.out 1).trans rfl; have hcz13_2 : w11.cell? ⟨gb148, 2, none⟩ = some (.slice A0_2 l0_2.length c0_2) := (blk_cell BK148.out 2).trans rfl; have hcz13_3 : w11.cell? ⟨gb148, 3, none⟩ = some (.slice A0_3 l0_3.length c0_3) := (blk_cell BK148.out 3).trans rfl; have hfz13_0 := blk_frozen BK148.out 0; have hfz13_1 := blk_frozen BK148.out 1; have hfz13_2 := blk_frozen BK148.out 2; have hfz13_3 := blk_frozen BK148.out 3; have hcz14_0 : w11.cell? ⟨gb149, 0, none⟩ = some (.int .i64 a1_0) := (blk_cell BK149.out 0).trans rfl; have hcz14_1 : w11.cell? ⟨gb149, 1, none⟩ = some (.string a1_1) := (blk_cell BK149.out 1).trans rfl; have hcz14_2 : w11.cell? ⟨gb149, 2, none⟩ = some (.slice A1_2 l1_2.length c1_2) := (blk_cell BK149.out 2).trans rfl; have hcz14_3 : w11.cell? ⟨gb149, 3, none⟩ = some (.slice A1_3 l1_3.length c1_3) := (blk_cell BK149.out 3).trans rfl; have hfz14_0 := blk_frozen BK149.out 0; have hfz14_1 := blk_frozen BK149.out 1; have hfz14_2 := blk_frozen BK149.out 2; have hfz14_3 := blk_frozen BK149.out 3) | (go_at_call 10; (with_reducible refine (laws_paValue.calls k a0_0 a0_1 _ _ l0_2 _ _ l0_3 true _ ?side1 ?side2 ?side3 ?side4 A5.out).mono ?_); (case side1 => repeat (first | exact (Kd.C_below HR0_2.out HB.out) | (with_reducible refine Kd.C_alloc ?_ _) | (with_reducible refine Kd.C_drewN ?_ _) | (with_reducible refine Kd.C_drew ?_))); (case side2 => exact HC0_2.out); (case side3 => repeat (first | exact (Kd.C_below HR0_3.out HB.out) | (with_reducible refine Kd.C_alloc ?_ _) | (with_reducible refine Kd.C_drewN ?_ _) | (with_reducible refine Kd.C_drew ?_))); (case side4 => exact HC0_3.out); rintro e w15 ⟨rfl, hb⟩; have n0_ := Aside0.mk (blk_below (g := gb148) (o := .cells #[.int .i64 a0_0, .string a0_1, .slice A0_2 l0_2.length c0_2, .slice A0_3 l0_3.length c0_3] 25 (0, 0)) (by (with_reducible repeat (first | refine blk_drewN ?_ _ | refine blk_drew ?_ | refine blk_alloc ?_ _)); exact BK148.out) hb); have n1_ := Aside0.mk (blk_below (g := gb149) (o := .cells #[.int .i64 a1_0, .string a1_1, .slice A1_2 l1_2.length c1_2, .slice A1_3 l1_3.length c1_3] 25 (0, 0)) (by (with_reducible repeat (first | refine blk_drewN ?_ _ | refine blk_drew ?_ | refine blk_alloc ?_ _)); exact BK149.out) hb); have n2_ := Aside0.mk (below_step (by repeat (first | (with_reducible first | exact HB.out | apply below_alloc | apply pw_below_drewN | apply below_drew1 | refine below_set ?_ GE148.out | refine below_set ?_ GE149.out) | exact HB.out)) hb); clear BK148; clear BK149; clear HB; have BK148 := n0_; have BK149 := n1_; have HB := n2_; clear n0_ n1_ n2_; (try clear hb); (try clear hb2); (try clear hk); (try clear hi); have hcz16_0 : w15.cell? ⟨gb149, 0, none⟩ = some (.int .i64 a1_0) := (blk_cell BK149.out 0).trans rfl; have hcz16_1 : w15.cell? ⟨gb149, 1, none⟩ = some (.string a1_1) := (blk_cell BK149.out 1).trans rfl; have hcz16_2 : w15.cell? ⟨gb149, 2, none⟩ = some (.slice A1_2 l1_2.length c1_2) := (blk_cell BK149.out 2).trans rfl; have hcz16_3 : w15.cell? ⟨gb149, 3, none⟩ = some (.slice A1_3 l1_3.length c1_3) := (blk_cell BK149.out 3).trans rfl; have hfz16_0 := blk_frozen BK149.out 0; have hfz16_1 := blk_frozen BK149.out 1; have hfz16_2 := blk_frozen BK149.out 2; have hfz16_3 := blk_frozen BK149.out 3) | (go_at_call 10; (with_reducible refine (laws_paValue.calls k a1_0 a1_1 _ _ l1_2 _ _ l1_3 true _ ?side1 ?side2 ?side3 ?side4 A7.out).mono ?_); (case side1 => repeat (first | exact (Kd.C_below HR1_2.out HB.out) | (with_reducible refine Kd.C_alloc ?_ _) | (with_reducible refine Kd.C_drewN ?_ _) | (with_reducible refine Kd.C_drew ?_))); (case side2 => exact HC1_2.out); (case side3 => repeat (first | exact (Kd.C_below HR1_3.out HB.out) | (with_reducible refine Kd.C_alloc ?_ _) | (with_reducible refine Kd.C_drewN ?_ _) | (with_reducible refine Kd.C_drew ?_))); (case side4 => exact HC1_3.out); rintro e w17 ⟨rfl, hb⟩; have n0_ := Aside0.mk (blk_below (g := gb148) (o := .cells #[.int .i64 a0_0, .string a0_1, .slice A0_2 l0_2.length c0_2, .slice A0_3 l0_3.length c0_3] 25 (0, 0)) (by (with_reducible repeat (first | refine blk_drewN ?_ _ | refine blk_drew ?_ | refine blk_alloc ?_ _)); exact BK148.out) hb); have n1_ := Aside0.mk (blk_below (g := gb149) (o := .cells #[.int .i64 a1_0, .string a1_1, .slice A1_2 l1_2.length c1_2, .slice A1_3 l1_3.length c1_3] 25 (0, 0)) (by (with_reducible repeat (first | refine blk_drewN ?_ _ | refine blk_drew ?_ | refine blk_alloc ?_ _)); exact BK149.out) hb); have n2_ := Aside0.mk (below_step (by repeat (first | (with_reducible first | exact HB.out | apply below_alloc | apply pw_below_drewN | apply below_drew1 | refine below_set ?_ GE148.out | refine below_set ?_ GE149.out) | exact HB.out)) hb); clear BK148; clear BK149; clear HB; have BK148 := n0_; have BK149 := n1_; have HB := n2_; clear n0_ n1_ n2_; (try clear hb); (try clear hb2); (try clear hk); (try clear hi); have hcz18_0 : w17.cell? ⟨gb149, 0, none⟩ = some (.int .i64 a1_0) := (blk_cell BK149.out 0).trans rfl; have hcz18_1 : w17.cell? ⟨gb149, 1, none⟩ = some (.string a1_1) := (blk_cell BK149.out 1).trans rfl; have hcz18_2 : w17.cell? ⟨gb149, 2, none⟩ = some (.slice A1_2 l1_2.length c1_2) := (blk_cell BK149.out 2).trans rfl; have hcz18_3 : w17.cell? ⟨gb149, 3, none⟩ = some (.slice A1_3 l1_3.length c1_3) := (blk_cell BK149.out 3).trans rfl; have hfz18_0 := blk_frozen BK149.out 0; have hfz18_1 := blk_frozen BK149.out 1; have hfz18_2 := blk_frozen BK149.out 2; have hfz18_3 := blk_frozen BK149.out 3) | (go_at_call 18; (with_reducible refine (spec_KeepsNulls.calls k a1_0 a1_1 _ _ l1_2 _ _ l1_3 t152 _ ?side1 ?side2 ?side3 ?side4 A9.out).mono ?_); (case side1 => repeat (first | exact (Kd.C_below HR1_2.out HB.out) | (with_reducible refine Kd.C_alloc ?_ _) | (with_reducible refine Kd.C_drewN ?_ _) | (with_reducible refine Kd.C_drew ?_))); (case side2 => exact HC1_2.out); (case side3 => repeat (first | exact (Kd.C_below HR1_3.out HB.out) | (with_reducible refine Kd.C_alloc ?_ _) | (with_reducible refine Kd.C_drewN ?_ _) | (with_reducible refine Kd.C_drew ?_))); (case side4 => exact HC1_3.out); rintro e w19 ⟨rfl, hb⟩; have n0_ := Aside0.mk (blk_below (g := gb148) (o := .cells #[.int .i64 a0_0, .string a0_1, .slice A0_2 l0_2.length c0_2, .slice A0_3 l0_3.length c0_3] 25 (0, 0)) (by (with_reducible repeat (first | refine blk_drewN ?_ _ | refine blk_drew ?_ | refine blk_alloc ?_ _)); exact BK148.out) hb); have n1_ := Aside0.mk (blk_below (g := gb149) (o := .cells #[.int .i64 a1_0, .string a1_1, .slice A1_2 l1_2.length c1_2, .slice A1_3 l1_3.length c1_3] 25 (0, 0)) (by (with_reducible repeat (first | refine blk_drewN ?_ _ | refine blk_drew ?_ | refine blk_alloc ?_ _)); exact BK149.out) hb); have n2_ := Aside0.mk (below_step (by repeat (first | (with_reducible first | exact HB.out | apply below_alloc | apply pw_below_drewN | apply below_drew1 | refine below_set ?_ GE148.out | refine below_set ?_ GE149.out) | exact HB.out)) hb); clear BK148; clear BK149; clear HB; have BK148 := n0_; have BK149 := n1_; have HB := n2_; clear n0_ n1_ n2_; (try clear hb); (try clear hb2); (try clear hk); (try clear hi)))
     go_ret
     exact ⟨by first | rfl | (simp [errW_none, errW_some] <;> rfl) | (simp [*, errW_none, errW_some] <;> rfl), by repeat (first | (with_reducible first | exact HB.out | apply below_alloc | apply pw_below_drewN | apply below_drew1 | refine below_set ?_ GE148.out | refine below_set ?_ GE149.out) | exact HB.out)⟩
    ·
     replace c8 := Bool.eq_false_iff.mpr c8
     subst c8
     have H1 : (some false) = some r := by rw [if_neg (show ¬ (false = true) by decide)] at H; exact H
     clear H
     have H := H1
     clear H1
     obtain rfl := Option.some.inj H
     go_enter Tryd.func6, Tryd.ntmps6
     go_wp2_with (first | ((with_reducible refine gate_dst (N := 2) rfl ?_); refine box_event ?hg (N := 2) ?hd (cs := #[.int .i64 a0_0, .string a0_1, .slice A0_2 l0_2.length c0_2, .slice A0_3 l0_3.length c0_3]) (t := 25) ?hr ?_; (case hd => rfl); (case hg => rfl); (case hr => first | (go_simp; done) | (go_simp; rfl)); intro gb148 hg w20 hbox hb; have n0_ := Aside0.mk (below_step (by repeat (first | (with_reducible first | exact HB.out | apply below_alloc | apply pw_below_drewN | apply below_drew1) | exact HB.out)) hb); have n1_ := Aside0.mk (hbox); have n2_ := Aside0.mk ((by rw [hg]; exact (below_size (by repeat (first | (with_reducible first | exact HB.out | apply below_alloc | apply pw_below_drewN | apply below_drew1) | exact HB.out))) : w.heap.size ≤ gb148)); have n3_ := Aside0.mk ((by rw [hg]; exact (below_size (by repeat (first | (with_reducible first | exact HB.out | apply below_alloc | apply pw_below_drewN | apply below_drew1) | exact HB.out))) : w.heap.size ≤ gb148)); clear HB; have HB := n0_; have BK148 := n1_; have GW148 := n2_; have GE148 := n3_; clear n0_ n1_ n2_ n3_; clear hb hbox hg) | ((with_reducible refine gate_dst (N := 3) rfl ?_); refine box_event ?hg (N := 3) ?hd (cs := #[.int .i64 a1_0, .string a1_1, .slice A1_2 l1_2.length c1_2, .slice A1_3 l1_3.length c1_3]) (t := 25) ?hr ?_; (case hd => rfl); (case hg => rfl); (case hr => first | (go_simp; done) | (go_simp; rfl)); intro gb149 hg w21 hbox hb; have n0_ := Aside0.mk (blk_below (g := gb148) (o := .cells #[.int .i64 a0_0, .string a0_1, .slice A0_2 l0_2.length c0_2, .slice A0_3 l0_3.length c0_3] 25 (0, 0)) (by (with_reducible repeat (first | refine blk_drewN ?_ _ | refine blk_drew ?_ | refine blk_alloc ?_ _)); exact BK148.out) hb); have n1_ := Aside0.mk (below_step (by repeat (first | (with_reducible first | exact HB.out | apply below_alloc | apply pw_below_drewN | apply below_drew1 | refine below_set ?_ GE148.out) | exact HB.out)) hb); have n2_ := Aside0.mk (hbox); have n3_ := Aside0.mk ((by rw [hg]; exact (below_size (by repeat (first | (with_reducible first | exact HB.out | apply below_alloc | apply pw_below_drewN | apply below_drew1 | refine below_set ?_ GE148.out) | exact HB.out))) : w.heap.size ≤ gb149)); have n4_ := Aside0.mk ((by rw [hg]; exact (below_size (by repeat (first | (with_reducible first | exact HB.out | apply below_alloc | apply pw_below_drewN | apply below_drew1 | refine below_set ?_ GE148.out) | exact HB.out))) : w.heap.size ≤ gb149)); have n5_ := Aside0.mk ((by rw [hg]; exact Nat.ne_of_lt (blk_lt (g := gb148) (o := .cells #[.int .i64 a0_0, .string a0_1, .slice A0_2 l0_2.length c0_2, .slice A0_3 l0_3.length c0_3] 25 (0, 0)) (by (with_reducible repeat (first | refine blk_drewN ?_ _ | refine blk_drew ?_ | refine blk_alloc ?_ _)); exact BK148.out)) : gb148 ≠ gb149)); have n6_ := Aside0.mk ((by rw [hg]; exact Nat.ne_of_gt (blk_lt (g := gb148) (o := .cells #[.int .i64 a0_0, .string a0_1, .slice A0_2 l0_2.length c0_2, .slice A0_3 l0_3.length c0_3] 25 (0, 0)) (by (with_reducible repeat (first | refine blk_drewN ?_ _ | refine blk_drew ?_ | refine blk_alloc ?_ _)); exact BK148.out)) : gb149 ≠ gb148)); clear BK148; clear HB; have BK148 := n0_; have HB := n1_; have BK149 := n2_; have GW149 := n3_; have GE149 := n4_; have NB148_149 := n5_; have NB149_148 := n6_; clear n0_ n1_ n2_ n3_ n4_ n5_ n6_; clear hb hbox hg; have hnb22 := NB148_149.out; have hnc22 := NB149_148.out; have hcz23_0 : w21.cell? ⟨gb148, 0, none⟩ = some (.int .i64 a0_0) := (blk_cell BK148.out 0).trans rfl; have hcz23_1 : w21.cell? ⟨gb148, 1, none⟩ = some (.string a0_1) := (blk_cell BK148.out 1).trans rfl; have hcz23_2 : w21.cell? ⟨gb148, 2, none⟩ = some (.slice A0_2 l0_2.length c0_2) := (blk_cell BK148.out 2).trans rfl; have hcz23_3 : w21.cell? ⟨gb148, 3, none⟩ = some (.slice A0_3 l0_3.length c0_3) := (blk_cell BK148.out 3).trans rfl; have hfz23_0 := blk_frozen BK148.out 0; have hfz23_1 := blk_frozen BK148.out 1; have hfz23_2 := blk_frozen BK148.out 2; have hfz23_3 := blk_frozen BK148.out 3; have hcz24_0 : w21.cell? ⟨gb149, 0, none⟩ = some (.int .i64 a1_0) := (blk_cell BK149.out 0).trans rfl; have hcz24_1 : w21.cell? ⟨gb149, 1, none⟩ = some (.string a1_1) := (blk_cell BK149.out 1).trans rfl; have hcz24_2 : w21.cell? ⟨gb149, 2, none⟩ = some (.slice A1_2 l1_2.length c1_2) := (blk_cell BK149.out 2).trans rfl; have hcz24_3 : w21.cell? ⟨gb149, 3, none⟩ = some (.slice A1_3 l1_3.length c1_3) := (blk_cell BK149.out 3).trans rfl; have hfz24_0 := blk_frozen BK149.out 0; have hfz24_1 := blk_frozen BK149.out 1; have hfz24_2 := blk_frozen BK149.out 2; have hfz24_3 := blk_frozen BK149.out 3) | (go_at_call 10; (with_reducible refine (laws_paValue.calls k a0_0 a0_1 _ _ l0_2 _ _ l0_3 true _ ?side1 ?side2 ?side3 ?side4 A5.out).mono ?_); (case side1 => repeat (first | exact (Kd.C_below HR0_2.out HB.out) | (with_reducible refine Kd.C_alloc ?_ _) | (with_reducible refine Kd.C_drewN ?_ _) | (with_reducible refine Kd.C_drew ?_))); (case side2 => exact HC0_2.out); (case side3 => repeat (first | exact (Kd.C_below HR0_3.out HB.out) | (with_reducible refine Kd.C_alloc ?_ _) | (with_reducible refine Kd.C_drewN ?_ _) | (with_reducible refine Kd.C_drew ?_))); (case side4 => exact HC0_3.out); rintro e w25 ⟨rfl, hb⟩; have n0_ := Aside0.mk (blk_below (g := gb148) (o := .cells #[.int .i64 a0_0, .string a0_1, .slice A0_2 l0_2.length c0_2, .slice A0_3 l0_3.length c0_3] 25 (0, 0)) (by (with_reducible repeat (first | refine blk_drewN ?_ _ | refine blk_drew ?_ | refine blk_alloc ?_ _)); exact BK148.out) hb); have n1_ := Aside0.mk (blk_below (g := gb149) (o := .cells #[.int .i64 a1_0, .string a1_1, .slice A1_2 l1_2.length c1_2, .slice A1_3 l1_3.length c1_3] 25 (0, 0)) (by (with_reducible repeat (first | refine blk_drewN ?_ _ | refine blk_drew ?_ | refine blk_alloc ?_ _)); exact BK149.out) hb); have n2_ := Aside0.mk (below_step (by repeat (first | (with_reducible first | exact HB.out | apply below_alloc | apply pw_below_drewN | apply below_drew1 | refine below_set ?_ GE148.out | refine below_set ?_ GE149.out) | exact HB.out)) hb); clear BK148; clear BK149; clear HB; have BK148 := n0_; have BK149 := n1_; have HB := n2_; clear n0_ n1_ n2_; (try clear hb); (try clear hb2); (try clear hk); (try clear hi); have hcz26_0 : w25.cell? ⟨gb149, 0, none⟩ = some (.int .i64 a1_0) := (blk_cell BK149.out 0).trans rfl; have hcz26_1 : w25.cell? ⟨gb149, 1, none⟩ = some (.string a1_1) := (blk_cell BK149.out 1).trans rfl; have hcz26_2 : w25.cell? ⟨gb149, 2, none⟩ = some (.slice A1_2 l1_2.length c1_2) := (blk_cell BK149.out 2).trans rfl; have hcz26_3 : w25.cell? ⟨gb149, 3, none⟩ = some (.slice A1_3 l1_3.length c1_3) := (blk_cell BK149.out 3).trans rfl; have hfz26_0 := blk_frozen BK149.out 0; have hfz26_1 := blk_frozen BK149.out 1; have hfz26_2 := blk_frozen BK149.out 2; have hfz26_3 := blk_frozen BK149.out 3) | (go_at_call 10; (with_reducible refine (laws_paValue.calls k a1_0 a1_1 _ _ l1_2 _ _ l1_3 false _ ?side1 ?side2 ?side3 ?side4 A7.out).mono ?_); (case side1 => repeat (first | exact (Kd.C_below HR1_2.out HB.out) | (with_reducible refine Kd.C_alloc ?_ _) | (with_reducible refine Kd.C_drewN ?_ _) | (with_reducible refine Kd.C_drew ?_))); (case side2 => exact HC1_2.out); (case side3 => repeat (first | exact (Kd.C_below HR1_3.out HB.out) | (with_reducible refine Kd.C_alloc ?_ _) | (with_reducible refine Kd.C_drewN ?_ _) | (with_reducible refine Kd.C_drew ?_))); (case side4 => exact HC1_3.out); rintro e w27 ⟨rfl, hb⟩; have n0_ := Aside0.mk (blk_below (g := gb148) (o := .cells #[.int .i64 a0_0, .string a0_1, .slice A0_2 l0_2.length c0_2, .slice A0_3 l0_3.length c0_3] 25 (0, 0)) (by (with_reducible repeat (first | refine blk_drewN ?_ _ | refine blk_drew ?_ | refine blk_alloc ?_ _)); exact BK148.out) hb); have n1_ := Aside0.mk (blk_below (g := gb149) (o := .cells #[.int .i64 a1_0, .string a1_1, .slice A1_2 l1_2.length c1_2, .slice A1_3 l1_3.length c1_3] 25 (0, 0)) (by (with_reducible repeat (first | refine blk_drewN ?_ _ | refine blk_drew ?_ | refine blk_alloc ?_ _)); exact BK149.out) hb); have n2_ := Aside0.mk (below_step (by repeat (first | (with_reducible first | exact HB.out | apply below_alloc | apply pw_below_drewN | apply below_drew1 | refine below_set ?_ GE148.out | refine below_set ?_ GE149.out) | exact HB.out)) hb); clear BK148; clear BK149; clear HB; have BK148 := n0_; have BK149 := n1_; have HB := n2_; clear n0_ n1_ n2_; (try clear hb); (try clear hb2); (try clear hk); (try clear hi)))
     go_ret
     exact ⟨by first | rfl | (simp [errW_none, errW_some] <;> rfl) | (simp [*, errW_none, errW_some] <;> rfl), by repeat (first | (with_reducible first | exact HB.out | apply below_alloc | apply pw_below_drewN | apply below_drew1 | refine below_set ?_ GE148.out | refine below_set ?_ GE149.out) | exact HB.out)⟩
   ·
    replace c6 := Bool.eq_false_iff.mpr c6
    subst c6
    have H1 : (some false) = some r := by rw [if_neg (show ¬ (false = true) by decide)] at H; exact H
    clear H
    have H := H1
    clear H1
    obtain rfl := Option.some.inj H
    go_enter Tryd.func6, Tryd.ntmps6
    go_wp2_with (first | ((with_reducible refine gate_dst (N := 2) rfl ?_); refine box_event ?hg (N := 2) ?hd (cs := #[.int .i64 a0_0, .string a0_1, .slice A0_2 l0_2.length c0_2, .slice A0_3 l0_3.length c0_3]) (t := 25) ?hr ?_; (case hd => rfl); (case hg => rfl); (case hr => first | (go_simp; done) | (go_simp; rfl)); intro gb148 hg w28 hbox hb; have n0_ := Aside0.mk (below_step (by repeat (first | (with_reducible first | exact HB.out | apply below_alloc | apply pw_below_drewN | apply below_drew1) | exact HB.out)) hb); have n1_ := Aside0.mk (hbox); have n2_ := Aside0.mk ((by rw [hg]; exact (below_size (by repeat (first | (with_reducible first | exact HB.out | apply below_alloc | apply pw_below_drewN | apply below_drew1) | exact HB.out))) : w.heap.size ≤ gb148)); have n3_ := Aside0.mk ((by rw [hg]; exact (below_size (by repeat (first | (with_reducible first | exact HB.out | apply below_alloc | apply pw_below_drewN | apply below_drew1) | exact HB.out))) : w.heap.size ≤ gb148)); clear HB; have HB := n0_; have BK148 := n1_; have GW148 := n2_; have GE148 := n3_; clear n0_ n1_ n2_ n3_; clear hb hbox hg) | ((with_reducible refine gate_dst (N := 3) rfl ?_); refine box_event ?hg (N := 3) ?hd (cs := #[.int .i64 a1_0, .string a1_1, .slice A1_2 l1_2.length c1_2, .slice A1_3 l1_3.length c1_3]) (t := 25) ?hr ?_; (case hd => rfl); (case hg => rfl); (case hr => first | (go_simp; done) | (go_simp; rfl)); intro gb149 hg w29 hbox hb; have n0_ := Aside0.mk (blk_below (g := gb148) (o := .cells #[.int .i64 a0_0, .string a0_1, .slice A0_2 l0_2.length c0_2, .slice A0_3 l0_3.length c0_3] 25 (0, 0)) (by (with_reducible repeat (first | refine blk_drewN ?_ _ | refine blk_drew ?_ | refine blk_alloc ?_ _)); exact BK148.out) hb); have n1_ := Aside0.mk (below_step (by repeat (first | (with_reducible first | exact HB.out | apply below_alloc | apply pw_below_drewN | apply below_drew1 | refine below_set ?_ GE148.out) | exact HB.out)) hb); have n2_ := Aside0.mk (hbox); have n3_ := Aside0.mk ((by rw [hg]; exact (below_size (by repeat (first | (with_reducible first | exact HB.out | apply below_alloc | apply pw_below_drewN | apply below_drew1 | refine below_set ?_ GE148.out) | exact HB.out))) : w.heap.size ≤ gb149)); have n4_ := Aside0.mk ((by rw [hg]; exact (below_size (by repeat (first | (with_reducible first | exact HB.out | apply below_alloc | apply pw_below_drewN | apply below_drew1 | refine below_set ?_ GE148.out) | exact HB.out))) : w.heap.size ≤ gb149)); have n5_ := Aside0.mk ((by rw [hg]; exact Nat.ne_of_lt (blk_lt (g := gb148) (o := .cells #[.int .i64 a0_0, .string a0_1, .slice A0_2 l0_2.length c0_2, .slice A0_3 l0_3.length c0_3] 25 (0, 0)) (by (with_reducible repeat (first | refine blk_drewN ?_ _ | refine blk_drew ?_ | refine blk_alloc ?_ _)); exact BK148.out)) : gb148 ≠ gb149)); have n6_ := Aside0.mk ((by rw [hg]; exact Nat.ne_of_gt (blk_lt (g := gb148) (o := .cells #[.int .i64 a0_0, .string a0_1, .slice A0_2 l0_2.length c0_2, .slice A0_3 l0_3.length c0_3] 25 (0, 0)) (by (with_reducible repeat (first | refine blk_drewN ?_ _ | refine blk_drew ?_ | refine blk_alloc ?_ _)); exact BK148.out)) : gb149 ≠ gb148)); clear BK148; clear HB; have BK148 := n0_; have HB := n1_; have BK149 := n2_; have GW149 := n3_; have GE149 := n4_; have NB148_149 := n5_; have NB149_148 := n6_; clear n0_ n1_ n2_ n3_ n4_ n5_ n6_; clear hb hbox hg; have hnb30 := NB148_149.out; have hnc30 := NB149_148.out; have hcz31_0 : w29.cell? ⟨gb148, 0, none⟩ = some (.int .i64 a0_0) := (blk_cell BK148.out 0).trans rfl; have hcz31_1 : w29.cell? ⟨gb148, 1, none⟩ = some (.string a0_1) := (blk_cell BK148.out 1).trans rfl; have hcz31_2 : w29.cell? ⟨gb148, 2, none⟩ = some (.slice A0_2 l0_2.length c0_2) := (blk_cell BK148.out 2).trans rfl; have hcz31_3 : w29.cell? ⟨gb148, 3, none⟩ = some (.slice A0_3 l0_3.length c0_3) := (blk_cell BK148.out 3).trans rfl; have hfz31_0 := blk_frozen BK148.out 0; have hfz31_1 := blk_frozen BK148.out 1; have hfz31_2 := blk_frozen BK148.out 2; have hfz31_3 := blk_frozen BK148.out 3; have hcz32_0 : w29.cell? ⟨gb149, 0, none⟩ = some (.int .i64 a1_0) := (blk_cell BK149.out 0).trans rfl; have hcz32_1 : w29.cell? ⟨gb149, 1, none⟩ = some (.string a1_1) := (blk_cell BK149.out 1).trans rfl; have hcz32_2 : w29.cell? ⟨gb149, 2, none⟩ = some (.slice A1_2 l1_2.length c1_2) := (blk_cell BK149.out 2).trans rfl; have hcz32_3 : w29.cell? ⟨gb149, 3, none⟩ = some (.slice A1_3 l1_3.length c1_3) := (blk_cell BK149.out 3).trans rfl; have hfz32_0 := blk_frozen BK149.out 0; have hfz32_1 := blk_frozen BK149.out 1; have hfz32_2 := blk_frozen BK149.out 2; have hfz32_3 := blk_frozen BK149.out 3) | (go_at_call 10; (with_reducible refine (laws_paValue.calls k a0_0 a0_1 _ _ l0_2 _ _ l0_3 false _ ?side1 ?side2 ?side3 ?side4 A5.out).mono ?_); (case side1 => repeat (first | exact (Kd.C_below HR0_2.out HB.out) | (with_reducible refine Kd.C_alloc ?_ _) | (with_reducible refine Kd.C_drewN ?_ _) | (with_reducible refine Kd.C_drew ?_))); (case side2 => exact HC0_2.out); (case side3 => repeat (first | exact (Kd.C_below HR0_3.out HB.out) | (with_reducible refine Kd.C_alloc ?_ _) | (with_reducible refine Kd.C_drewN ?_ _) | (with_reducible refine Kd.C_drew ?_))); (case side4 => exact HC0_3.out); rintro e w33 ⟨rfl, hb⟩; have n0_ := Aside0.mk (blk_below (g := gb148) (o := .cells #[.int .i64 a0_0, .string a0_1, .slice A0_2 l0_2.length c0_2, .slice A0_3 l0_3.length c0_3] 25 (0, 0)) (by (with_reducible repeat (first | refine blk_drewN ?_ _ | refine blk_drew ?_ | refine blk_alloc ?_ _)); exact BK148.out) hb); have n1_ := Aside0.mk (blk_below (g := gb149) (o := .cells #[.int .i64 a1_0, .string a1_1, .slice A1_2 l1_2.length c1_2, .slice A1_3 l1_3.length c1_3] 25 (0, 0)) (by (with_reducible repeat (first | refine blk_drewN ?_ _ | refine blk_drew ?_ | refine blk_alloc ?_ _)); exact BK149.out) hb); have n2_ := Aside0.mk (below_step (by repeat (first | (with_reducible first | exact HB.out | apply below_alloc | apply pw_below_drewN | apply below_drew1 | refine below_set ?_ GE148.out | refine below_set ?_ GE149.out) | exact HB.out)) hb); clear BK148; clear BK149; clear HB; have BK148 := n0_; have BK149 := n1_; have HB := n2_; clear n0_ n1_ n2_; (try clear hb); (try clear hb2); (try clear hk); (try clear hi)))
    go_ret
    exact ⟨by first | rfl | (simp [errW_none, errW_some] <;> rfl) | (simp [*, errW_none, errW_some] <;> rfl), by repeat (first | (with_reducible first | exact HB.out | apply below_alloc | apply pw_below_drewN | apply below_drew1 | refine below_set ?_ GE148.out | refine below_set ?_ GE149.out) | exact HB.out)⟩
  ·
   rw [if_neg c4] at H
   have c4b0 : (a1_0 == 6) = false := beq_eq_false_iff_ne.mpr c4
   have c4b1 : (a1_0 != 6) = true := bne_iff_ne.mpr c4
   obtain rfl := Option.some.inj H
   go_enter Tryd.func6, Tryd.ntmps6
   go_wp2_with (first | ((with_reducible refine gate_dst (N := 2) rfl ?_); refine box_event ?hg (N := 2) ?hd (cs := #[.int .i64 a0_0, .string a0_1, .slice A0_2 l0_2.length c0_2, .slice A0_3 l0_3.length c0_3]) (t := 25) ?hr ?_; (case hd => rfl); (case hg => rfl); (case hr => first | (go_simp; done) | (go_simp; rfl)); intro gb148 hg w34 hbox hb; have n0_ := Aside0.mk (below_step (by repeat (first | (with_reducible first | exact HB.out | apply below_alloc | apply pw_below_drewN | apply below_drew1) | exact HB.out)) hb); have n1_ := Aside0.mk (hbox); have n2_ := Aside0.mk ((by rw [hg]; exact (below_size (by repeat (first | (with_reducible first | exact HB.out | apply below_alloc | apply pw_below_drewN | apply below_drew1) | exact HB.out))) : w.heap.size ≤ gb148)); have n3_ := Aside0.mk ((by rw [hg]; exact (below_size (by repeat (first | (with_reducible first | exact HB.out | apply below_alloc | apply pw_below_drewN | apply below_drew1) | exact HB.out))) : w.heap.size ≤ gb148)); clear HB; have HB := n0_; have BK148 := n1_; have GW148 := n2_; have GE148 := n3_; clear n0_ n1_ n2_ n3_; clear hb hbox hg) | ((with_reducible refine gate_dst (N := 3) rfl ?_); refine box_event ?hg (N := 3) ?hd (cs := #[.int .i64 a1_0, .string a1_1, .slice A1_2 l1_2.length c1_2, .slice A1_3 l1_3.length c1_3]) (t := 25) ?hr ?_; (case hd => rfl); (case hg => rfl); (case hr => first | (go_simp; done) | (go_simp; rfl)); intro gb149 hg w35 hbox hb; have n0_ := Aside0.mk (blk_below (g := gb148) (o := .cells #[.int .i64 a0_0, .string a0_1, .slice A0_2 l0_2.length c0_2, .slice A0_3 l0_3.length c0_3] 25 (0, 0)) (by (with_reducible repeat (first | refine blk_drewN ?_ _ | refine blk_drew ?_ | refine blk_alloc ?_ _)); exact BK148.out) hb); have n1_ := Aside0.mk (below_step (by repeat (first | (with_reducible first | exact HB.out | apply below_alloc | apply pw_below_drewN | apply below_drew1 | refine below_set ?_ GE148.out) | exact HB.out)) hb); have n2_ := Aside0.mk (hbox); have n3_ := Aside0.mk ((by rw [hg]; exact (below_size (by repeat (first | (with_reducible first | exact HB.out | apply below_alloc | apply pw_below_drewN | apply below_drew1 | refine below_set ?_ GE148.out) | exact HB.out))) : w.heap.size ≤ gb149)); have n4_ := Aside0.mk ((by rw [hg]; exact (below_size (by repeat (first | (with_reducible first | exact HB.out | apply below_alloc | apply pw_below_drewN | apply below_drew1 | refine below_set ?_ GE148.out) | exact HB.out))) : w.heap.size ≤ gb149)); have n5_ := Aside0.mk ((by rw [hg]; exact Nat.ne_of_lt (blk_lt (g := gb148) (o := .cells #[.int .i64 a0_0, .string a0_1, .slice A0_2 l0_2.length c0_2, .slice A0_3 l0_3.length c0_3] 25 (0, 0)) (by (with_reducible repeat (first | refine blk_drewN ?_ _ | refine blk_drew ?_ | refine blk_alloc ?_ _)); exact BK148.out)) : gb148 ≠ gb149)); have n6_ := Aside0.mk ((by rw [hg]; exact Nat.ne_of_gt (blk_lt (g := gb148) (o := .cells #[.int .i64 a0_0, .string a0_1, .slice A0_2 l0_2.length c0_2, .slice A0_3 l0_3.length c0_3] 25 (0, 0)) (by (with_reducible repeat (first | refine blk_drewN ?_ _ | refine blk_drew ?_ | refine blk_alloc ?_ _)); exact BK148.out)) : gb149 ≠ gb148)); clear BK148; clear HB; have BK148 := n0_; have HB := n1_; have BK149 := n2_; have GW149 := n3_; have GE149 := n4_; have NB148_149 := n5_; have NB149_148 := n6_; clear n0_ n1_ n2_ n3_ n4_ n5_ n6_; clear hb hbox hg; have hnb36 := NB148_149.out; have hnc36 := NB149_148.out; have hcz37_0 : w35.cell? ⟨gb148, 0, none⟩ = some (.int .i64 a0_0) := (blk_cell BK148.out 0).trans rfl; have hcz37_1 : w35.cell? ⟨gb148, 1, none⟩ = some (.string a0_1) := (blk_cell BK148.out 1).trans rfl; have hcz37_2 : w35.cell? ⟨gb148, 2, none⟩ = some (.slice A0_2 l0_2.length c0_2) := (blk_cell BK148.out 2).trans rfl; have hcz37_3 : w35.cell? ⟨gb148, 3, none⟩ = some (.slice A0_3 l0_3.length c0_3) := (blk_cell BK148.out 3).trans rfl; have hfz37_0 := blk_frozen BK148.out 0; have hfz37_1 := blk_frozen BK148.out 1; have hfz37_2 := blk_frozen BK148.out 2; have hfz37_3 := blk_frozen BK148.out 3; have hcz38_0 : w35.cell? ⟨gb149, 0, none⟩ = some (.int .i64 a1_0) := (blk_cell BK149.out 0).trans rfl; have hcz38_1 : w35.cell? ⟨gb149, 1, none⟩ = some (.string a1_1) := (blk_cell BK149.out 1).trans rfl; have hcz38_2 : w35.cell? ⟨gb149, 2, none⟩ = some (.slice A1_2 l1_2.length c1_2) := (blk_cell BK149.out 2).trans rfl; have hcz38_3 : w35.cell? ⟨gb149, 3, none⟩ = some (.slice A1_3 l1_3.length c1_3) := (blk_cell BK149.out 3).trans rfl; have hfz38_0 := blk_frozen BK149.out 0; have hfz38_1 := blk_frozen BK149.out 1; have hfz38_2 := blk_frozen BK149.out 2; have hfz38_3 := blk_frozen BK149.out 3))
   go_ret
   exact ⟨by first | rfl | (simp [errW_none, errW_some] <;> rfl) | (simp [*, errW_none, errW_some] <;> rfl), by repeat (first | (with_reducible first | exact HB.out | apply below_alloc | apply pw_below_drewN | apply below_drew1 | refine below_set ?_ GE148.out | refine below_set ?_ GE149.out) | exact HB.out)⟩
 ·
  rw [if_neg c3] at H
  have c3b0 : (a0_0 == 6) = false := beq_eq_false_iff_ne.mpr c3
  have c3b1 : (a0_0 != 6) = true := bne_iff_ne.mpr c3
  obtain rfl := Option.some.inj H
  go_enter Tryd.func6, Tryd.ntmps6
  go_wp2_with (first | ((with_reducible refine gate_dst (N := 2) rfl ?_); refine box_event ?hg (N := 2) ?hd (cs := #[.int .i64 a0_0, .string a0_1, .slice A0_2 l0_2.length c0_2, .slice A0_3 l0_3.length c0_3]) (t := 25) ?hr ?_; (case hd => rfl); (case hg => rfl); (case hr => first | (go_simp; done) | (go_simp; rfl)); intro gb148 hg w39 hbox hb; have n0_ := Aside0.mk (below_step (by repeat (first | (with_reducible first | exact HB.out | apply below_alloc | apply pw_below_drewN | apply below_drew1) | exact HB.out)) hb); have n1_ := Aside0.mk (hbox); have n2_ := Aside0.mk ((by rw [hg]; exact (below_size (by repeat (first | (with_reducible first | exact HB.out | apply below_alloc | apply pw_below_drewN | apply below_drew1) | exact HB.out))) : w.heap.size ≤ gb148)); have n3_ := Aside0.mk ((by rw [hg]; exact (below_size (by repeat (first | (with_reducible first | exact HB.out | apply below_alloc | apply pw_below_drewN | apply below_drew1) | exact HB.out))) : w.heap.size ≤ gb148)); clear HB; have HB := n0_; have BK148 := n1_; have GW148 := n2_; have GE148 := n3_; clear n0_ n1_ n2_ n3_; clear hb hbox hg) | ((with_reducible refine gate_dst (N := 3) rfl ?_); refine box_event ?hg (N := 3) ?hd (cs := #[.int .i64 a1_0, .string a1_1, .slice A1_2 l1_2.length c1_2, .slice A1_3 l1_3.length c1_3]) (t := 25) ?hr ?_; (case hd => rfl); (case hg => rfl); (case hr => first | (go_simp; done) | (go_simp; rfl)); intro gb149 hg w40 hbox hb; have n0_ := Aside0.mk (blk_below (g := gb148) (o := .cells #[.int .i64 a0_0, .string a0_1, .slice A0_2 l0_2.length c0_2, .slice A0_3 l0_3.length c0_3] 25 (0, 0)) (by (with_reducible repeat (first | refine blk_drewN ?_ _ | refine blk_drew ?_ | refine blk_alloc ?_ _)); exact BK148.out) hb); have n1_ := Aside0.mk (below_step (by repeat (first | (with_reducible first | exact HB.out | apply below_alloc | apply pw_below_drewN | apply below_drew1 | refine below_set ?_ GE148.out) | exact HB.out)) hb); have n2_ := Aside0.mk (hbox); have n3_ := Aside0.mk ((by rw [hg]; exact (below_size (by repeat (first | (with_reducible first | exact HB.out | apply below_alloc | apply pw_below_drewN | apply below_drew1 | refine below_set ?_ GE148.out) | exact HB.out))) : w.heap.size ≤ gb149)); have n4_ := Aside0.mk ((by rw [hg]; exact (below_size (by repeat (first | (with_reducible first | exact HB.out | apply below_alloc | apply pw_below_drewN | apply below_drew1 | refine below_set ?_ GE148.out) | exact HB.out))) : w.heap.size ≤ gb149)); have n5_ := Aside0.mk ((by rw [hg]; exact Nat.ne_of_lt (blk_lt (g := gb148) (o := .cells #[.int .i64 a0_0, .string a0_1, .slice A0_2 l0_2.length c0_2, .slice A0_3 l0_3.length c0_3] 25 (0, 0)) (by (with_reducible repeat (first | refine blk_drewN ?_ _ | refine blk_drew ?_ | refine blk_alloc ?_ _)); exact BK148.out)) : gb148 ≠ gb149)); have n6_ := Aside0.mk ((by rw [hg]; exact Nat.ne_of_gt (blk_lt (g := gb148) (o := .cells #[.int .i64 a0_0, .string a0_1, .slice A0_2 l0_2.length c0_2, .slice A0_3 l0_3.length c0_3] 25 (0, 0)) (by (with_reducible repeat (first | refine blk_drewN ?_ _ | refine blk_drew ?_ | refine blk_alloc ?_ _)); exact BK148.out)) : gb149 ≠ gb148)); clear BK148; clear HB; have BK148 := n0_; have HB := n1_; have BK149 := n2_; have GW149 := n3_; have GE149 := n4_; have NB148_149 := n5_; have NB149_148 := n6_; clear n0_ n1_ n2_ n3_ n4_ n5_ n6_; clear hb hbox hg; have hnb41 := NB148_149.out; have hnc41 := NB149_148.out; have hcz42_0 : w40.cell? ⟨gb148, 0, none⟩ = some (.int .i64 a0_0) := (blk_cell BK148.out 0).trans rfl; have hcz42_1 : w40.cell? ⟨gb148, 1, none⟩ = some (.string a0_1) := (blk_cell BK148.out 1).trans rfl; have hcz42_2 : w40.cell? ⟨gb148, 2, none⟩ = some (.slice A0_2 l0_2.length c0_2) := (blk_cell BK148.out 2).trans rfl; have hcz42_3 : w40.cell? ⟨gb148, 3, none⟩ = some (.slice A0_3 l0_3.length c0_3) := (blk_cell BK148.out 3).trans rfl; have hfz42_0 := blk_frozen BK148.out 0; have hfz42_1 := blk_frozen BK148.out 1; have hfz42_2 := blk_frozen BK148.out 2; have hfz42_3 := blk_frozen BK148.out 3))
  go_ret
  exact ⟨by first | rfl | (simp [errW_none, errW_some] <;> rfl) | (simp [*, errW_none, errW_some] <;> rfl), by repeat (first | (with_reducible first | exact HB.out | apply below_alloc | apply pw_below_drewN | apply below_drew1 | refine below_set ?_ GE148.out | refine below_set ?_ GE149.out) | exact HB.out)⟩

-- NOT PRINTED: function 19 (impl_paOut)

-- NOT PRINTED: function 40 (jsonpatch_back)

-- NOT PRINTED: function 48 (jsonpatch_backDoc)

-- NOT PRINTED: function 49 (jsonpatch_backAry)

/-! ### jsonpatch_zzSpace: function 71 -/
def jsonpatch_zzSpace.f (a0 : Int) : Option (Bool) := if a0 = 9 then (some true) else (if a0 = 10 then (some true) else (if a0 = 11 then (some true) else (if a0 = 12 then (some true) else (if a0 = 13 then (some true) else (if a0 = 32 then (some true) else (if a0 = 133 then (some true) else (if a0 = 160 then (some true) else (some false))))))))
set_option maxHeartbeats 8000000 in
set_option maxRecDepth 100000 in
theorem jsonpatch_zzSpace.calls (a0 : Int) (r : Bool) (w : World) (h : jsonpatch_zzSpace.f a0 = some r) :
  Calls Tryd.prog 71 #[.int .i32 a0] w fun e w' => e = .returned (.bool r) ∧ Drawn0 w w' := by
 have H : (if a0 = 9 then (some true) else (if a0 = 10 then (some true) else (if a0 = 11 then (some true) else (if a0 = 12 then (some true) else (if a0 = 13 then (some true) else (if a0 = 32 then (some true) else (if a0 = 133 then (some true) else (if a0 = 160 then (some true) else (some false))))))))) = some r := h
 clear h
 by_cases c2 : a0 = 9
 ·
  rw [if_pos c2] at H
  have c2b0 : (a0 == 9) = true := beq_iff_eq.mpr c2
  have c2b1 : (a0 != 9) = false := bne_eq_false_iff_eq.mpr c2
  clear c2
  obtain rfl := Option.some.inj H
  go_enter Tryd.func71, Tryd.ntmps71
  go_wp2
  go_ret
  exact ⟨by first | rfl | (simp; done) | (simp [*]; done) | (simp; rw [Bool.eq_iff_iff]; simp; done), by repeat (first | exact Drawn0.refl _ | apply Drawn0.step)⟩
 ·
  rw [if_neg c2] at H
  have c2b0 : (a0 == 9) = false := beq_eq_false_iff_ne.mpr c2
  have c2b1 : (a0 != 9) = true := bne_iff_ne.mpr c2
  by_cases c3 : a0 = 10
  ·
   rw [if_pos c3] at H
   have c3b0 : (a0 == 10) = true := beq_iff_eq.mpr c3
   have c3b1 : (a0 != 10) = false := bne_eq_false_iff_eq.mpr c3
   clear c3
   obtain rfl := Option.some.inj H
   go_enter Tryd.func71, Tryd.ntmps71
   go_wp2
   go_ret
   exact ⟨by first | rfl | (simp; done) | (simp [*]; done) | (simp; rw [Bool.eq_iff_iff]; simp; done), by repeat (first | exact Drawn0.refl _ | apply Drawn0.step)⟩
  ·
   rw [if_neg c3] at H
   have c3b0 : (a0 == 10) = false := beq_eq_false_iff_ne.mpr c3
   have c3b1 : (a0 != 10) = true := bne_iff_ne.mpr c3
   by_cases c4 : a0 = 11
   ·
    rw [if_pos c4] at H
    have c4b0 : (a0 == 11) = true := beq_iff_eq.mpr c4
    have c4b1 : (a0 != 11) = false := bne_eq_false_iff_eq.mpr c4
    clear c4
    obtain rfl := Option.some.inj H
    go_enter Tryd.func71, Tryd.ntmps71
    go_wp2
    go_ret
    exact ⟨by first | rfl | (simp; done) | (simp [*]; done) | (simp; rw [Bool.eq_iff_iff]; simp; done), by repeat (first | exact Drawn0.refl _ | apply Drawn0.step)⟩
   ·
    rw [if_neg c4] at H
    have c4b0 : (a0 == 11) = false := beq_eq_false_iff_ne.mpr c4
    have c4b1 : (a0 != 11) = true := bne_iff_ne.mpr c4
    by_cases c5 : a0 = 12
    ·
     rw [if_pos c5] at H
     have c5b0 : (a0 == 12) = true := beq_iff_eq.mpr c5
     have c5b1 : (a0 != 12) = false := bne_eq_false_iff_eq.mpr c5
     clear c5
     obtain rfl := Option.some.inj H
     go_enter Tryd.func71, Tryd.ntmps71
     go_wp2
     go_ret
     exact ⟨by first | rfl | (simp; done) | (simp [*]; done) | (simp; rw [Bool.eq_iff_iff]; simp; done), by repeat (first | exact Drawn0.refl _ | apply Drawn0.step)⟩
    ·
     rw [if_neg c5] at H
     have c5b0 : (a0 == 12) = false := beq_eq_false_iff_ne.mpr c5
     have c5b1 : (a0 != 12) = true := bne_iff_ne.mpr c5
     by_cases c6 : a0 = 13
     ·
      rw [if_pos c6] at H
      have c6b0 : (a0 == 13) = true := beq_iff_eq.mpr c6
      have c6b1 : (a0 != 13) = false := bne_eq_false_iff_eq.mpr c6
      clear c6
      obtain rfl := Option.some.inj H
      go_enter Tryd.func71, Tryd.ntmps71
      go_wp2
      go_ret
      exact ⟨by first | rfl | (simp; done) | (simp [*]; done) | (simp; rw [Bool.eq_iff_iff]; simp; done), by repeat (first | exact Drawn0.refl _ | apply Drawn0.step)⟩
     ·
      rw [if_neg c6] at H
      have c6b0 : (a0 == 13) = false := beq_eq_false_iff_ne.mpr c6
      have c6b1 : (a0 != 13) = true := bne_iff_ne.mpr c6
      by_cases c7 : a0 = 32
      ·
       rw [if_pos c7] at H
       have c7b0 : (a0 == 32) = true := beq_iff_eq.mpr c7
       have c7b1 : (a0 != 32) = false := bne_eq_false_iff_eq.mpr c7
       clear c7
       obtain rfl := Option.some.inj H
       go_enter Tryd.func71, Tryd.ntmps71
       go_wp2
       go_ret
       exact ⟨by first | rfl | (simp; done) | (simp [*]; done) | (simp; rw [Bool.eq_iff_iff]; simp; done), by repeat (first | exact Drawn0.refl _ | apply Drawn0.step)⟩
      ·
       rw [if_neg c7] at H
       have c7b0 : (a0 == 32) = false := beq_eq_false_iff_ne.mpr c7
       have c7b1 : (a0 != 32) = true := bne_iff_ne.mpr c7
       by_cases c8 : a0 = 133
       ·
        rw [if_pos c8] at H
        have c8b0 : (a0 == 133) = true := beq_iff_eq.mpr c8
        have c8b1 : (a0 != 133) = false := bne_eq_false_iff_eq.mpr c8
        clear c8
        obtain rfl := Option.some.inj H
        go_enter Tryd.func71, Tryd.ntmps71
        go_wp2
        go_ret
        exact ⟨by first | rfl | (simp; done) | (simp [*]; done) | (simp; rw [Bool.eq_iff_iff]; simp; done), by repeat (first | exact Drawn0.refl _ | apply Drawn0.step)⟩
       ·
        rw [if_neg c8] at H
        have c8b0 : (a0 == 133) = false := beq_eq_false_iff_ne.mpr c8
        have c8b1 : (a0 != 133) = true := bne_iff_ne.mpr c8
        by_cases c9 : a0 = 160
        ·
         rw [if_pos c9] at H
         have c9b0 : (a0 == 160) = true := beq_iff_eq.mpr c9
         have c9b1 : (a0 != 160) = false := bne_eq_false_iff_eq.mpr c9
         clear c9
         obtain rfl := Option.some.inj H
         go_enter Tryd.func71, Tryd.ntmps71
         go_wp2
         go_ret
         exact ⟨by first | rfl | (simp; done) | (simp [*]; done) | (simp; rw [Bool.eq_iff_iff]; simp; done), by repeat (first | exact Drawn0.refl _ | apply Drawn0.step)⟩
        ·
         rw [if_neg c9] at H
         have c9b0 : (a0 == 160) = false := beq_eq_false_iff_ne.mpr c9
         have c9b1 : (a0 != 160) = true := bne_iff_ne.mpr c9
         obtain rfl := Option.some.inj H
         go_enter Tryd.func71, Tryd.ntmps71
         go_wp2
         go_ret
         exact ⟨by first | rfl | (simp; done) | (simp [*]; done) | (simp; rw [Bool.eq_iff_iff]; simp; done), by repeat (first | exact Drawn0.refl _ | apply Drawn0.step)⟩

-- NOT PRINTED: function 59 (jsonpatch_lazyNode_nextByte)

-- NOT PRINTED: function 50 (jsonpatch_lazyNode_intoDoc)

-- NOT PRINTED: function 63 (jsonpatch_partialDoc_remove)

-- NOT PRINTED: function 61 (jsonpatch_lazyNode_intoAry)

-- NOT PRINTED: function 51 (jsonpatch_pruneNulls)

-- NOT PRINTED: function 60 (jsonpatch_pruneDocNulls)

-- NOT PRINTED: function 62 (jsonpatch_pruneAryNulls)

-- NOT PRINTED: function 64 (jsonpatch_partialDoc_set)

-- NOT PRINTED: function 41 (jsonpatch_merge)

-- NOT PRINTED: function 52 (jsonpatch_mergeDocs)

-- NOT PRINTED: function 65 (jsonpatch_newLazyNode)

-- NOT PRINTED: function 66 (jsonpatch_zzRaw)

-- NOT PRINTED: function 53 (jsonpatch_zzNull)

-- NOT PRINTED: function 67 (jsonpatch_zzEmptyArray)

-- NOT PRINTED: function 68 (jsonpatch_zzEmptyObject)

-- NOT PRINTED: function 54 (jsonpatch_node)

-- NOT PRINTED: function 42 (jsonpatch_value)

-- NOT PRINTED: function 20 (jsonpatch_DoorMerge)

-- NOT PRINTED: function 21 (impl_paIn)

-- NOT PRINTED: function 7 (impl_PaMerge)

/-! ### spec_Member: function 12 -/
def spec_Member.l0 : Nat → ByteArray → List ByteArray → Int → Int → Option (Int)
 | 0, _, _, _, _ => none
 | k + 1, x1, x8, x9, x10 => if x10 < x9 then (if 0 ≤ x10 then (if x10 < (x8.length : Int) then (if (rdOf ByteArray.empty x8 x10).toList = x1.toList then (some x10) else (spec_Member.l0 k x1 x8 x9 (wrap64 (x10 + 1)))) else (none)) else (none)) else (some (-1))
def spec_Member.f (k : Nat) (a0_0 : Int) (a0_1 : ByteArray) (l0_2 : List ByteArray) (l0_3 : List (S25)) (a1 : ByteArray) : Option (Int) := spec_Member.l0 k a1 l0_2 (l0_2.length : Int) 0
theorem spec_Member.mono_l : ∀ k, (∀ y0 y1 y2 y3, LeO (spec_Member.l0 k y0 y1 y2 y3) (spec_Member.l0 (k + 1) y0 y1 y2 y3))
 | 0 => fun _ _ _ _ r h => by simp [spec_Member.l0] at h
 | k + 1 => by
  have ih0 := spec_Member.mono_l k
  ·
   intro y0 y1 y2 y3
   unfold spec_Member.l0
   repeat' first
   | (with_reducible exact ih0 _ _ _ _)
   | (with_reducible exact LeO.refl _)
   | (with_reducible exact LeO.none _)
   | (with_reducible refine LeO.ite ?_ ?_)
   | (with_reducible refine LeO.bind ?_ (fun _ => ?_))
   | exact ih0 _ _ _ _
   | exact LeO.none _
   | refine LeO.ite ?_ ?_
   | refine LeO.bind ?_ (fun _ => ?_)
theorem spec_Member.mono : ∀ a0 a1 a2 a3 a4 k, LeO (spec_Member.f k a0 a1 a2 a3 a4) (spec_Member.f (k + 1) a0 a1 a2 a3 a4) := by
 intro a0 a1 a2 a3 a4 k
 have ih0 := spec_Member.mono_l k
 unfold spec_Member.f
 repeat' first
   | (with_reducible exact ih0 _ _ _ _)
   | (with_reducible exact LeO.refl _)
   | (with_reducible exact LeO.none _)
   | (with_reducible refine LeO.ite ?_ ?_)
   | (with_reducible refine LeO.bind ?_ (fun _ => ?_))
   | exact ih0 _ _ _ _
   | exact LeO.none _
   | refine LeO.ite ?_ ?_
   | refine LeO.bind ?_ (fun _ => ?_)
set_option maxHeartbeats 8000000 in
set_option maxRecDepth 100000 in
theorem spec_Member.calls (k : Nat) (a0_0 : Int) (a0_1 : ByteArray) (A0_2 : Option Addr) (c0_2 : Nat) (l0_2 : List ByteArray) (A0_3 : Option Addr) (c0_3 : Nat) (l0_3 : List (S25)) (a1 : ByteArray) (r : Int) (w : World) (hr0_2 : Kd.C Kd.string w A0_2 l0_2.length l0_2) (hc0_2 : l0_2.length ≤ c0_2) (hr0_3 : Kd.C k25 w A0_3 l0_3.length l0_3) (hc0_3 : l0_3.length ≤ c0_3) (h : spec_Member.f k a0_0 a0_1 l0_2 l0_3 a1 = some r) :
  Calls Tryd.prog 12 #[.agg #[.int .i64 a0_0, .string a0_1, .slice A0_2 l0_2.length c0_2, .slice A0_3 l0_3.length c0_3], .string a1] w fun e w' => e = .returned (.int .i64 r) ∧ Below w.heap.size w w' := by
 have hu25 := Tryd.underlying25
 have HR0_2 := Aside0.mk hr0_2
 have HC0_2 := Aside0.mk hc0_2
 clear hr0_2 hc0_2
 have HR0_3 := Aside0.mk hr0_3
 have HC0_3 := Aside0.mk hc0_3
 clear hr0_3 hc0_3
 have HB := Aside0.mk (Below.refl w.heap.size w)
 have H : (spec_Member.l0 k a1 l0_2 (l0_2.length : Int) 0) = some r := h
 clear h
 have H' := Aside0.mk H
 clear H
 go_enter Tryd.func12, Tryd.ntmps12
 go_wp2_with (first | ((with_reducible refine gate_dst (N := 2) rfl ?_); refine box_event ?hg (N := 2) ?hd (cs := #[.int .i64 a0_0, .string a0_1, .slice A0_2 l0_2.length c0_2, .slice A0_3 l0_3.length c0_3]) (t := 25) ?hr ?_; (case hd => rfl); (case hg => rfl); (case hr => first | (go_simp; done) | (go_simp; rfl)); intro gb170 hg w3 hbox hb; have n0_ := Aside0.mk (below_step (by repeat (first | (with_reducible first | exact HB.out | apply below_alloc | apply pw_below_drewN | apply below_drew1) | exact HB.out)) hb); have n1_ := Aside0.mk (hbox); have n2_ := Aside0.mk ((by rw [hg]; exact (below_size (by repeat (first | (with_reducible first | exact HB.out | apply below_alloc | apply pw_below_drewN | apply below_drew1) | exact HB.out))) : w.heap.size ≤ gb170)); have n3_ := Aside0.mk ((by rw [hg]; exact (below_size (by repeat (first | (with_reducible first | exact HB.out | apply below_alloc | apply pw_below_drewN | apply below_drew1) | exact HB.out))) : w.heap.size ≤ gb170)); clear HB; have HB := n0_; have BK170 := n1_; have GW170 := n2_; have GE170 := n3_; clear n0_ n1_ n2_ n3_; clear hb hbox hg; have hcz4_0 : w3.cell? ⟨gb170, 0, none⟩ = some (.int .i64 a0_0) := (blk_cell BK170.out 0).trans rfl; have hcz4_1 : w3.cell? ⟨gb170, 1, none⟩ = some (.string a0_1) := (blk_cell BK170.out 1).trans rfl; have hcz4_2 : w3.cell? ⟨gb170, 2, none⟩ = some (.slice A0_2 l0_2.length c0_2) := (blk_cell BK170.out 2).trans rfl; have hcz4_3 : w3.cell? ⟨gb170, 3, none⟩ = some (.slice A0_3 l0_3.length c0_3) := (blk_cell BK170.out 3).trans rfl; have hfz4_0 := blk_frozen BK170.out 0; have hfz4_1 := blk_frozen BK170.out 1; have hfz4_2 := blk_frozen BK170.out 2; have hfz4_3 := blk_frozen BK170.out 3))
 try simp only [Act.put, List.setIfInBounds_toArray, List.set_cons_succ, List.set_cons_zero]
 go_loopg [10] k (fun kq v10 w' => ∃ (x10_1 : Int), v10 = .int .i64 x10_1 ∧ Aside0 (spec_Member.l0 kq a1 l0_2 (l0_2.length : Int) x10_1 = some r) ∧ Aside0 (kq ≤ k) ∧ Aside0 (w'.heap[gb170]? = some (.cells #[.int .i64 a0_0, .string a0_1, (.slice A0_2 l0_2.length c0_2), (.slice A0_3 l0_3.length c0_3)] 25 (0, 0))) ∧ Aside0 (Below w.heap.size w w'))
 case atStart => exact ⟨(0), (by first | rfl | (simp; done) | (simp [*]; done) | (simp; rw [Bool.eq_iff_iff]; simp; done)), H', ⟨Nat.le_refl _⟩, ⟨by (with_reducible repeat (first | refine blk_drewN ?_ _ | refine blk_drew ?_ | refine blk_alloc ?_ _)); exact BK170.out⟩, ⟨by repeat (first | (with_reducible first | exact HB.out | apply below_alloc | apply pw_below_drewN | apply below_drew1 | refine below_set ?_ GE170.out) | exact HB.out)⟩⟩
 case round =>
  clear H'
  (try clear c1); (try clear p2); (try clear hcz4_0); (try clear hcz4_1); (try clear hcz4_2); (try clear hcz4_3); (try clear hfz4_0); (try clear hfz4_1); (try clear hfz4_2); (try clear hfz4_3)
  obtain ⟨x10_1, rfl, HA, HK1, BK170, HB⟩ := hrel
  cases gk with
  | zero => exact absurd HA.out (by simp [spec_Member.l0])
  | succ k1 =>
   have H := HA.out
   clear HA
   simp only [spec_Member.l0] at H
   by_cases c5 : x10_1 < (l0_2.length : Int)
   ·
    rw [if_pos c5] at H
    have c5b0 : decide (x10_1 < (l0_2.length : Int)) = true := decide_eq_true c5
    clear c5
    by_cases c6 : 0 ≤ x10_1
    ·
     rw [if_pos c6] at H
     have c6b0 : decide (0 ≤ x10_1) = true := decide_eq_true c6
     clear c6
     by_cases c7 : x10_1 < (l0_2.length : Int)
     ·
      rw [if_pos c7] at H
      have c7b0 : decide (x10_1 < (l0_2.length : Int)) = true := decide_eq_true c7
      clear c7
      by_cases c8 : (rdOf ByteArray.empty l0_2 x10_1).toList = a1.toList
      ·
       rw [if_pos c8] at H
       have c8b0 : ((rdOf ByteArray.empty l0_2 x10_1).toList == a1.toList) = true := beq_iff_eq.mpr c8
       have c8b1 : ((rdOf ByteArray.empty l0_2 x10_1).toList != a1.toList) = false := bne_eq_false_iff_eq.mpr c8
       clear c8
       obtain rfl := Option.some.inj H
       have p171 : 0 ≤ (x10_1 : Int) := of_decide_eq_true (by first | (with_reducible assumption) | assumption)
       have q171 : x10_1 < (l0_2.length : Int) := of_decide_eq_true (by first | (with_reducible assumption) | assumption)
       obtain ⟨ad171, e171, hx171_0⟩ := Kd.at_string HR0_2.out x10_1 p171 q171
       cases e171
       replace hx171_0 := (HB.out.cell (World.block_lt_of_cell? w _ hx171_0)).trans hx171_0
       replace p171 := eq_true p171
       replace q171 := eq_true q171
       go_wp2
       go_ret
       exact ⟨by first | rfl | (simp [errW_none, errW_some] <;> rfl) | (simp [*, errW_none, errW_some] <;> rfl), by repeat (first | (with_reducible first | exact HB.out | apply below_alloc | apply pw_below_drewN | apply below_drew1 | refine below_set ?_ GE170.out) | exact HB.out)⟩
      ·
       rw [if_neg c8] at H
       have c8b0 : ((rdOf ByteArray.empty l0_2 x10_1).toList == a1.toList) = false := beq_eq_false_iff_ne.mpr c8
       have c8b1 : ((rdOf ByteArray.empty l0_2 x10_1).toList != a1.toList) = true := bne_iff_ne.mpr c8
       have H' := Aside0.mk H
       clear H
       have p171 : 0 ≤ (x10_1 : Int) := of_decide_eq_true (by first | (with_reducible assumption) | assumption)
       have q171 : x10_1 < (l0_2.length : Int) := of_decide_eq_true (by first | (with_reducible assumption) | assumption)
       obtain ⟨ad171, e171, hx171_0⟩ := Kd.at_string HR0_2.out x10_1 p171 q171
       cases e171
       replace hx171_0 := (HB.out.cell (World.block_lt_of_cell? w _ hx171_0)).trans hx171_0
       replace p171 := eq_true p171
       replace q171 := eq_true q171
       go_wp2
       go_roundg k1
       case measure => have := HK1.out; omega
       case rel => exact ⟨(wrap64 (x10_1 + 1)), (by first | rfl | (simp; done) | (simp [*]; done) | (simp; rw [Bool.eq_iff_iff]; simp; done)), H', ⟨by have := HK1.out; omega⟩, ⟨by (with_reducible repeat (first | refine blk_drewN ?_ _ | refine blk_drew ?_ | refine blk_alloc ?_ _)); exact BK170.out⟩, ⟨by repeat (first | (with_reducible first | exact HB.out | apply below_alloc | apply pw_below_drewN | apply below_drew1 | refine below_set ?_ GE170.out) | exact HB.out)⟩⟩
     ·
      rw [if_neg c7] at H
      exact absurd H (by simp)
    ·
     rw [if_neg c6] at H
     exact absurd H (by simp)
   ·
    rw [if_neg c5] at H
    have c5b0 : decide (x10_1 < (l0_2.length : Int)) = false := decide_eq_false c5
    clear c5
    obtain rfl := Option.some.inj H
    go_wp2
    go_ret
    exact ⟨by first | rfl | (simp [errW_none, errW_some] <;> rfl) | (simp [*, errW_none, errW_some] <;> rfl), by repeat (first | (with_reducible first | exact HB.out | apply below_alloc | apply pw_below_drewN | apply below_drew1 | refine below_set ?_ GE170.out) | exact HB.out)⟩

end Go.Proofs.YtdjogkfgegopfaaDoor.MFnPaMergeAgain
