/- What Go functions compute, as functions of numbers and lists, and the walks that show it. No condition. Written by a program (wip/tools/mprint.py) over the kit's print. -/
import Derived.Test.YtdjogkfgegopfaaDoorMFnPaMergeAgain0
import Derived.Test.YtdjogkfgegopfaaDoorMFnPaMergeAgain7
namespace Go.Proofs.YtdjogkfgegopfaaDoor.MFnPaMergeAgain
open Go.RowKit Go.Proofs.YtdjogkfgegopfaaDoorW.PrintWords Go.Proofs.YtdjogkfgegopfaaDoorW.PrintLast Go.Proofs.YtdjogkfgegopfaaDoorW.PrintMore
attribute [local go_sem] max2_int min2_int max_two min_two max_three min_three max_four min_four   -- for this text's walks alone
set_option linter.unusedVariables false
set_option linter.unusedSimpArgs false

/-! ### spec_Alike: function 8 -/
mutual
def spec_Alike.j0 : Nat → Bool → Int → ByteArray → List ByteArray → List (S25) → Int → ByteArray → List ByteArray → List (S25) → Option (Bool)
 | 0, _, _, _, _, _, _, _, _, _ => none
 | k + 1, x37, x173000, x173001, x173002, x173003, x174000, x174001, x174002, x174003 => if x37 = true then (some false) else (spec_Alike.l0 k x173003 (x173003.length : Int) 0 x173000 x173001 x173002 x173003 x174000 x174001 x174002 x174003)
def spec_Alike.l0 : Nat → List (S25) → Int → Int → Int → ByteArray → List ByteArray → List (S25) → Int → ByteArray → List ByteArray → List (S25) → Option (Bool)
 | 0, _, _, _, _, _, _, _, _, _, _, _ => none
 | k + 1, x39, x40, x41, x173000, x173001, x173002, x173003, x174000, x174001, x174002, x174003 => if x41 < x40 then (if 0 ≤ x41 then (if x41 < (x39.length : Int) then (if x173000 = 6 then (if x41 < (x173002.length : Int) then ((spec_Member.f k x174000 x174001 x174002 x174003 (rdOf ByteArray.empty x173002 x41)).bind fun t177 => (if t177 < 0 then (some false) else (if 0 ≤ t177 then (if t177 < (x174003.length : Int) then ((spec_Alike.f k ((rd_T25 x39 x41).f0) ((rd_T25 x39 x41).f1) ((rd_T25 x39 x41).f2) ((rd_T25 x39 x41).f3) ((rd_T25 x174003 t177).f0) ((rd_T25 x174003 t177).f1) ((rd_T25 x174003 t177).f2) ((rd_T25 x174003 t177).f3)).bind fun t179 => (if t179 = true then (spec_Alike.l0 k x39 x40 (wrap64 (x41 + 1)) x173000 x173001 x173002 x173003 x174000 x174001 x174002 x174003) else (some false))) else (none)) else (none)))) else (none)) else (if x41 < 0 then (some false) else (if x41 < (x174003.length : Int) then ((spec_Alike.f k ((rd_T25 x39 x41).f0) ((rd_T25 x39 x41).f1) ((rd_T25 x39 x41).f2) ((rd_T25 x39 x41).f3) ((rd_T25 x174003 x41).f0) ((rd_T25 x174003 x41).f1) ((rd_T25 x174003 x41).f2) ((rd_T25 x174003 x41).f3)).bind fun t181 => (if t181 = true then (spec_Alike.l0 k x39 x40 (wrap64 (x41 + 1)) x173000 x173001 x173002 x173003 x174000 x174001 x174002 x174003) else (some false))) else (none)))) else (none)) else (none)) else (some true)
def spec_Alike.f : Nat → Int → ByteArray → List ByteArray → List (S25) → Int → ByteArray → List ByteArray → List (S25) → Option (Bool)
 | 0, _, _, _, _, _, _, _, _ => none
 | k + 1, a0_0, a0_1, l0_2, l0_3, a1_0, a1_1, l1_2, l1_3 => if a0_0 = a1_0 then (if a0_1.toList = a1_1.toList then (if (l0_3.length : Int) = (l1_3.length : Int) then (spec_Alike.j0 k ((l0_2.length : Int) != (l1_2.length : Int)) a0_0 a0_1 l0_2 l0_3 a1_0 a1_1 l1_2 l1_3) else (spec_Alike.j0 k true a0_0 a0_1 l0_2 l0_3 a1_0 a1_1 l1_2 l1_3)) else (spec_Alike.j0 k true a0_0 a0_1 l0_2 l0_3 a1_0 a1_1 l1_2 l1_3)) else (spec_Alike.j0 k true a0_0 a0_1 l0_2 l0_3 a1_0 a1_1 l1_2 l1_3)
end
theorem spec_Alike.mono_l : ∀ k, (∀ y0 y1 y2 y3 y4 y5 y6 y7, LeO (spec_Alike.f k y0 y1 y2 y3 y4 y5 y6 y7) (spec_Alike.f (k + 1) y0 y1 y2 y3 y4 y5 y6 y7)) ∧ (∀ y0 y1 y2 y3 y4 y5 y6 y7 y8, LeO (spec_Alike.j0 k y0 y1 y2 y3 y4 y5 y6 y7 y8) (spec_Alike.j0 (k + 1) y0 y1 y2 y3 y4 y5 y6 y7 y8)) ∧ (∀ y0 y1 y2 y3 y4 y5 y6 y7 y8 y9 y10, LeO (spec_Alike.l0 k y0 y1 y2 y3 y4 y5 y6 y7 y8 y9 y10) (spec_Alike.l0 (k + 1) y0 y1 y2 y3 y4 y5 y6 y7 y8 y9 y10))
 | 0 => ⟨fun _ _ _ _ _ _ _ _ r h => by simp [spec_Alike.f] at h, fun _ _ _ _ _ _ _ _ _ r h => by simp [spec_Alike.j0] at h, fun _ _ _ _ _ _ _ _ _ _ _ r h => by simp [spec_Alike.l0] at h⟩
 | k + 1 => by
  obtain ⟨ih0, ih1, ih2⟩ := spec_Alike.mono_l k
  refine ⟨?_, ?_, ?_⟩
  ·
   intro y0 y1 y2 y3 y4 y5 y6 y7
   unfold spec_Alike.f
   repeat' first
   | (with_reducible exact ih0 _ _ _ _ _ _ _ _)
   | (with_reducible exact ih1 _ _ _ _ _ _ _ _ _)
   | (with_reducible exact ih2 _ _ _ _ _ _ _ _ _ _ _)
   | (with_reducible exact spec_Member.mono _ _ _ _ _ _)
   | (with_reducible exact LeO.refl _)
   | (with_reducible exact LeO.none _)
   | (with_reducible refine LeO.ite ?_ ?_)
   | (with_reducible refine LeO.bind ?_ (fun _ => ?_))
   | exact ih0 _ _ _ _ _ _ _ _
   | exact ih1 _ _ _ _ _ _ _ _ _
   | exact ih2 _ _ _ _ _ _ _ _ _ _ _
   | exact spec_Member.mono _ _ _ _ _ _
   | exact LeO.none _
   | refine LeO.ite ?_ ?_
   | refine LeO.bind ?_ (fun _ => ?_)
  ·
   intro y0 y1 y2 y3 y4 y5 y6 y7 y8
   unfold spec_Alike.j0
   repeat' first
   | (with_reducible exact ih0 _ _ _ _ _ _ _ _)
   | (with_reducible exact ih1 _ _ _ _ _ _ _ _ _)
   | (with_reducible exact ih2 _ _ _ _ _ _ _ _ _ _ _)
   | (with_reducible exact spec_Member.mono _ _ _ _ _ _)
   | (with_reducible exact LeO.refl _)
   | (with_reducible exact LeO.none _)
   | (with_reducible refine LeO.ite ?_ ?_)
   | (with_reducible refine LeO.bind ?_ (fun _ => ?_))
   | exact ih0 _ _ _ _ _ _ _ _
   | exact ih1 _ _ _ _ _ _ _ _ _
   | exact ih2 _ _ _ _ _ _ _ _ _ _ _
   | exact spec_Member.mono _ _ _ _ _ _
   | exact LeO.none _
   | refine LeO.ite ?_ ?_
   | refine LeO.bind ?_ (fun _ => ?_)
  ·
   intro y0 y1 y2 y3 y4 y5 y6 y7 y8 y9 y10
   unfold spec_Alike.l0
   repeat' first
   | (with_reducible exact ih0 _ _ _ _ _ _ _ _)
   | (with_reducible exact ih1 _ _ _ _ _ _ _ _ _)
   | (with_reducible exact ih2 _ _ _ _ _ _ _ _ _ _ _)
   | (with_reducible exact spec_Member.mono _ _ _ _ _ _)
   | (with_reducible exact LeO.refl _)
   | (with_reducible exact LeO.none _)
   | (with_reducible refine LeO.ite ?_ ?_)
   | (with_reducible refine LeO.bind ?_ (fun _ => ?_))
   | exact ih0 _ _ _ _ _ _ _ _
   | exact ih1 _ _ _ _ _ _ _ _ _
   | exact ih2 _ _ _ _ _ _ _ _ _ _ _
   | exact spec_Member.mono _ _ _ _ _ _
   | exact LeO.none _
   | refine LeO.ite ?_ ?_
   | refine LeO.bind ?_ (fun _ => ?_)
theorem spec_Alike.mono : ∀ a0 a1 a2 a3 a4 a5 a6 a7 k, LeO (spec_Alike.f k a0 a1 a2 a3 a4 a5 a6 a7) (spec_Alike.f (k + 1) a0 a1 a2 a3 a4 a5 a6 a7) := by
 intro a0 a1 a2 a3 a4 a5 a6 a7 k
 obtain ⟨ih0, ih1, ih2⟩ := spec_Alike.mono_l k
 exact ih0 a0 a1 a2 a3 a4 a5 a6 a7
def spec_Alike.T8 : Bool × List (List Nat × List Nat) := (true, [([], []), ([], []), ([1], [1]), ([], []), ([2, 3], [2, 3]), ([4], [4]), ([0, 5], [0, 5]), ([6, 6, 0, 1, 2, 3, 4, 5, 6], [6])])
def spec_Alike.B8 : List Nat := [0, 0, 2, 0, 14, 30, 63, 127]
theorem spec_Alike.tab8 : rtab .any (opsOf Tryd.f8 8) = spec_Alike.T8 := by kernel_rfl
theorem spec_Alike.bits8 : waitsOk spec_Alike.T8.2 spec_Alike.B8 = true := by kernel_rfl
def spec_Alike.T9 : Bool × List (List Nat × List Nat) := (true, [([], []), ([0], [0]), ([1], [1]), ([2], [2]), ([2], [2]), ([4, 2], [2, 4]), ([2], [2]), ([5, 6, 2], [2, 5, 6]), ([7, 2], [2, 7]), ([3, 8, 2, 2], [2, 3, 8]), ([9, 2], [2, 9]), ([2, 10], [2, 10])])
def spec_Alike.B9 : List Nat := [0, 1, 3, 7, 7, 23, 7, 119, 247, 511, 1023, 2047]
theorem spec_Alike.tab9 : rtab .any (opsOf Tryd.f8 9) = spec_Alike.T9 := by kernel_rfl
theorem spec_Alike.bits9 : waitsOk spec_Alike.T9.2 spec_Alike.B9 = true := by kernel_rfl
set_option maxHeartbeats 8000000 in
set_option maxRecDepth 100000 in
theorem spec_Alike.calls (k : Nat) : ∀ (a0_0 : Int) (a0_1 : ByteArray) (A0_2 : Option Addr) (c0_2 : Nat) (l0_2 : List ByteArray) (A0_3 : Option Addr) (c0_3 : Nat) (l0_3 : List (S25)) (a1_0 : Int) (a1_1 : ByteArray) (A1_2 : Option Addr) (c1_2 : Nat) (l1_2 : List ByteArray) (A1_3 : Option Addr) (c1_3 : Nat) (l1_3 : List (S25)) (r : Bool) (w : World) (hr0_2 : Kd.C Kd.string w A0_2 l0_2.length l0_2) (hc0_2 : l0_2.length ≤ c0_2) (hr0_3 : Kd.C k25 w A0_3 l0_3.length l0_3) (hc0_3 : l0_3.length ≤ c0_3) (hr1_2 : Kd.C Kd.string w A1_2 l1_2.length l1_2) (hc1_2 : l1_2.length ≤ c1_2) (hr1_3 : Kd.C k25 w A1_3 l1_3.length l1_3) (hc1_3 : l1_3.length ≤ c1_3) (h : spec_Alike.f k a0_0 a0_1 l0_2 l0_3 a1_0 a1_1 l1_2 l1_3 = some r),
  Calls Tryd.prog 8 #[.agg #[.int .i64 a0_0, .string a0_1, .slice A0_2 l0_2.length c0_2, .slice A0_3 l0_3.length c0_3], .agg #[.int .i64 a1_0, .string a1_1, .slice A1_2 l1_2.length c1_2, .slice A1_3 l1_3.length c1_3]] w fun e w' => e = .returned (.bool r) ∧ Below w.heap.size w w' := by
 induction k using Nat.strongRecOn with
 | _ k ih =>
 intro a0_0 a0_1 A0_2 c0_2 l0_2 A0_3 c0_3 l0_3 a1_0 a1_1 A1_2 c1_2 l1_2 A1_3 c1_3 l1_3 r w hr0_2 hc0_2 hr0_3 hc0_3 hr1_2 hc1_2 hr1_3 hc1_3 h
 cases k with
 | zero => exact absurd h (by simp [spec_Alike.f])
 | succ k =>
 simp only [spec_Alike.f] at h
 have hu25 := Tryd.underlying25
 have HR0_2 := Aside0.mk hr0_2
 have HC0_2 := Aside0.mk hc0_2
 clear hr0_2 hc0_2
 have HR0_3 := Aside0.mk hr0_3
 have HC0_3 := Aside0.mk hc0_3
 clear hr0_3 hc0_3
 have HR1_2 := Aside0.mk hr1_2
 have HC1_2 := Aside0.mk hc1_2
 clear hr1_2 hc1_2
 have HR1_3 := Aside0.mk hr1_3
 have HC1_3 := Aside0.mk hc1_3
 clear hr1_3 hc1_3
 have HB := Aside0.mk (Below.refl w.heap.size w)
 have H : (if a0_0 = a1_0 then (if a0_1.toList = a1_1.toList then (if (l0_3.length : Int) = (l1_3.length : Int) then (spec_Alike.j0 k ((l0_2.length : Int) != (l1_2.length : Int)) a0_0 a0_1 l0_2 l0_3 a1_0 a1_1 l1_2 l1_3) else (spec_Alike.j0 k true a0_0 a0_1 l0_2 l0_3 a1_0 a1_1 l1_2 l1_3)) else (spec_Alike.j0 k true a0_0 a0_1 l0_2 l0_3 a1_0 a1_1 l1_2 l1_3)) else (spec_Alike.j0 k true a0_0 a0_1 l0_2 l0_3 a1_0 a1_1 l1_2 l1_3)) = some r := h
 clear h
 have HC3 := Aside0.mk H
 clear H
 go_enter Tryd.func8, Tryd.ntmps8
 go_upto_region 1 with (first | ((with_reducible refine gate_dst (N := 2) rfl ?_); (try (refine gate_guard (by rfl) ?_; dsimp only)); refine box_event ?hg (N := 2) ?hd (cs := #[.int .i64 a0_0, .string a0_1, .slice A0_2 l0_2.length c0_2, .slice A0_3 l0_3.length c0_3]) (t := 25) ?hr ?_; (case hd => rfl); (case hg => rfl); (case hr => first | (go_simp; done) | (go_simp; rfl)); intro gb172 hg w4 hbox hb; have n0_ := Aside0.mk (below_step (by repeat (first | (with_reducible first | exact HB.out | apply below_alloc | apply pw_below_drewN | apply below_drew1) | exact HB.out)) hb); have n1_ := Aside0.mk (hbox); have n2_ := Aside0.mk ((by rw [hg]; exact (below_size (by repeat (first | (with_reducible first | exact HB.out | apply below_alloc | apply pw_below_drewN | apply below_drew1) | exact HB.out))) : w.heap.size ≤ gb172)); have n3_ := Aside0.mk ((by rw [hg]; exact (below_size (by repeat (first | (with_reducible first | exact HB.out | apply below_alloc | apply pw_below_drewN | apply below_drew1) | exact HB.out))) : w.heap.size ≤ gb172)); clear HB; have HB := n0_; have BK172 := n1_; have GW172 := n2_; have GE172 := n3_; clear n0_ n1_ n2_ n3_; clear hb hbox hg) | ((with_reducible refine gate_dst (N := 3) rfl ?_); (try (refine gate_guard (by rfl) ?_; dsimp only)); refine box_event ?hg (N := 3) ?hd (cs := #[.int .i64 a1_0, .string a1_1, .slice A1_2 l1_2.length c1_2, .slice A1_3 l1_3.length c1_3]) (t := 25) ?hr ?_; (case hd => rfl); (case hg => rfl); (case hr => first | (go_simp; done) | (go_simp; rfl)); intro gb173 hg w5 hbox hb; have n0_ := Aside0.mk (blk_below (g := gb172) (o := .cells #[.int .i64 a0_0, .string a0_1, .slice A0_2 l0_2.length c0_2, .slice A0_3 l0_3.length c0_3] 25 (0, 0)) (by (with_reducible repeat (first | refine blk_drewN ?_ _ | refine blk_drew ?_ | refine blk_alloc ?_ _)); exact BK172.out) hb); have n1_ := Aside0.mk (below_step (by repeat (first | (with_reducible first | exact HB.out | apply below_alloc | apply pw_below_drewN | apply below_drew1 | refine below_set ?_ GE172.out) | exact HB.out)) hb); have n2_ := Aside0.mk (hbox); have n3_ := Aside0.mk ((by rw [hg]; exact (below_size (by repeat (first | (with_reducible first | exact HB.out | apply below_alloc | apply pw_below_drewN | apply below_drew1 | refine below_set ?_ GE172.out) | exact HB.out))) : w.heap.size ≤ gb173)); have n4_ := Aside0.mk ((by rw [hg]; exact (below_size (by repeat (first | (with_reducible first | exact HB.out | apply below_alloc | apply pw_below_drewN | apply below_drew1 | refine below_set ?_ GE172.out) | exact HB.out))) : w.heap.size ≤ gb173)); have n5_ := Aside0.mk ((by rw [hg]; exact Nat.ne_of_lt (blk_lt (g := gb172) (o := .cells #[.int .i64 a0_0, .string a0_1, .slice A0_2 l0_2.length c0_2, .slice A0_3 l0_3.length c0_3] 25 (0, 0)) (by (with_reducible repeat (first | refine blk_drewN ?_ _ | refine blk_drew ?_ | refine blk_alloc ?_ _)); exact BK172.out)) : gb172 ≠ gb173)); have n6_ := Aside0.mk ((by rw [hg]; exact Nat.ne_of_gt (blk_lt (g := gb172) (o := .cells #[.int .i64 a0_0, .string a0_1, .slice A0_2 l0_2.length c0_2, .slice A0_3 l0_3.length c0_3] 25 (0, 0)) (by (with_reducible repeat (first | refine blk_drewN ?_ _ | refine blk_drew ?_ | refine blk_alloc ?_ _)); exact BK172.out)) : gb173 ≠ gb172)); clear BK172; clear HB; have BK172 := n0_; have HB := n1_; have BK173 := n2_; have GW173 := n3_; have GE173 := n4_; have NB172_173 := n5_; have NB173_172 := n6_; clear n0_ n1_ n2_ n3_ n4_ n5_ n6_; clear hb hbox hg))
 (try simp only [Act.put, List.setIfInBounds_toArray, List.set_cons_zero, List.set_cons_succ])
 go_cut [37] (fun v37 wc => ∃ (kq : Nat) (x37_2 : Bool), v37 = .bool x37_2 ∧ Aside0 (spec_Alike.j0 kq x37_2 a0_0 a0_1 l0_2 l0_3 a1_0 a1_1 l1_2 l1_3 = some r) ∧ Aside0 (kq ≤ k) ∧ Aside0 (wc.heap[gb172]? = some (.cells #[.int .i64 a0_0, .string a0_1, (.slice A0_2 l0_2.length c0_2), (.slice A0_3 l0_3.length c0_3)] 25 (0, 0))) ∧ Aside0 (wc.heap[gb173]? = some (.cells #[.int .i64 a1_0, .string a1_1, (.slice A1_2 l1_2.length c1_2), (.slice A1_3 l1_3.length c1_3)] 25 (0, 0))) ∧ Aside0 (Below w.heap.size w wc))
 case first =>
  have H := HC3.out
  clear HC3
  by_cases c6 : a0_0 = a1_0
  ·
   rw [if_pos c6] at H
   have c6b0 : (a0_0 == a1_0) = true := beq_iff_eq.mpr c6
   have c6b1 : (a0_0 != a1_0) = false := bne_eq_false_iff_eq.mpr c6
   clear c6
   (first | rw [c6b0] | (simp only [i64_w, i32_w]; rw [c6b0]) | skip)
   by_cases c7 : a0_1.toList = a1_1.toList
   ·
    rw [if_pos c7] at H
    have c7b0 : (a0_1.toList == a1_1.toList) = true := beq_iff_eq.mpr c7
    have c7b1 : (a0_1.toList != a1_1.toList) = false := bne_eq_false_iff_eq.mpr c7
    clear c7
    by_cases c8 : (l0_3.length : Int) = (l1_3.length : Int)
    ·
     rw [if_pos c8] at H
     have c8b0 : ((l0_3.length : Int) == (l1_3.length : Int)) = true := beq_iff_eq.mpr c8
     have c8b1 : ((l0_3.length : Int) != (l1_3.length : Int)) = false := bne_eq_false_iff_eq.mpr c8
     have c8b2 : (l0_3.length == l1_3.length) = true := by first | simpa using c8 | (simp at c8 ⊢; omega)
     clear c8
     have H' := Aside0.mk H
     clear H
     have hnb9 := NB172_173.out
     have hnc9 := NB173_172.out
     have hcz10_0 : w5.cell? ⟨gb172, 0, none⟩ = some (.int .i64 a0_0) := (blk_cell BK172.out 0).trans rfl
     have hcz10_1 : w5.cell? ⟨gb172, 1, none⟩ = some (.string a0_1) := (blk_cell BK172.out 1).trans rfl
     have hcz10_2 : w5.cell? ⟨gb172, 2, none⟩ = some (.slice A0_2 l0_2.length c0_2) := (blk_cell BK172.out 2).trans rfl
     have hcz10_3 : w5.cell? ⟨gb172, 3, none⟩ = some (.slice A0_3 l0_3.length c0_3) := (blk_cell BK172.out 3).trans rfl
     have hfz10_0 := blk_frozen BK172.out 0
     have hfz10_1 := blk_frozen BK172.out 1
     have hfz10_2 := blk_frozen BK172.out 2
     have hfz10_3 := blk_frozen BK172.out 3
     have hcz11_0 : w5.cell? ⟨gb173, 0, none⟩ = some (.int .i64 a1_0) := (blk_cell BK173.out 0).trans rfl
     have hcz11_1 : w5.cell? ⟨gb173, 1, none⟩ = some (.string a1_1) := (blk_cell BK173.out 1).trans rfl
     have hcz11_2 : w5.cell? ⟨gb173, 2, none⟩ = some (.slice A1_2 l1_2.length c1_2) := (blk_cell BK173.out 2).trans rfl
     have hcz11_3 : w5.cell? ⟨gb173, 3, none⟩ = some (.slice A1_3 l1_3.length c1_3) := (blk_cell BK173.out 3).trans rfl
     have hfz11_0 := blk_frozen BK173.out 0
     have hfz11_1 := blk_frozen BK173.out 1
     have hfz11_2 := blk_frozen BK173.out 2
     have hfz11_3 := blk_frozen BK173.out 3
     go_wp2
     go_meet
     case rel => exact ⟨_, (((l0_2.length : Int) != (l1_2.length : Int))), (by first | rfl | (simp; done) | (simp [*]; done) | (simp; rw [Bool.eq_iff_iff]; simp; done)), H', ⟨by first | omega | exact Nat.le_refl _⟩, ⟨by (with_reducible repeat (first | refine blk_drewN ?_ _ | refine blk_drew ?_ | refine blk_alloc ?_ _)); exact BK172.out⟩, ⟨by (with_reducible repeat (first | refine blk_drewN ?_ _ | refine blk_drew ?_ | refine blk_alloc ?_ _)); exact BK173.out⟩, ⟨by repeat (first | (with_reducible first | exact HB.out | apply below_alloc | apply pw_below_drewN | apply below_drew1 | refine below_set ?_ GE172.out | refine below_set ?_ GE173.out) | exact HB.out)⟩⟩
    ·
     rw [if_neg c8] at H
     have c8b0 : ((l0_3.length : Int) == (l1_3.length : Int)) = false := beq_eq_false_iff_ne.mpr c8
     have c8b1 : ((l0_3.length : Int) != (l1_3.length : Int)) = true := bne_iff_ne.mpr c8
     have c8b2 : (l0_3.length == l1_3.length) = false := by first | simpa using c8 | (simp at c8 ⊢; omega)
     have H' := Aside0.mk H
     clear H
     have hnb12 := NB172_173.out
     have hnc12 := NB173_172.out
     have hcz13_0 : w5.cell? ⟨gb172, 0, none⟩ = some (.int .i64 a0_0) := (blk_cell BK172.out 0).trans rfl
     have hcz13_1 : w5.cell? ⟨gb172, 1, none⟩ = some (.string a0_1) := (blk_cell BK172.out 1).trans rfl
     have hcz13_2 : w5.cell? ⟨gb172, 2, none⟩ = some (.slice A0_2 l0_2.length c0_2) := (blk_cell BK172.out 2).trans rfl
     have hcz13_3 : w5.cell? ⟨gb172, 3, none⟩ = some (.slice A0_3 l0_3.length c0_3) := (blk_cell BK172.out 3).trans rfl
     have hfz13_0 := blk_frozen BK172.out 0
     have hfz13_1 := blk_frozen BK172.out 1
     have hfz13_2 := blk_frozen BK172.out 2
     have hfz13_3 := blk_frozen BK172.out 3
     have hcz14_0 : w5.cell? ⟨gb173, 0, none⟩ = some (.int .i64 a1_0) := (blk_cell BK173.out 0).trans rfl
     have hcz14_1 : w5.cell? ⟨gb173, 1, none⟩ = some (.string a1_1) := (blk_cell BK173.out 1).trans rfl
     have hcz14_2 : w5.cell? ⟨gb173, 2, none⟩ = some (.slice A1_2 l1_2.length c1_2) := (blk_cell BK173.out 2).trans rfl
     have hcz14_3 : w5.cell? ⟨gb173, 3, none⟩ = some (.slice A1_3 l1_3.length c1_3) := (blk_cell BK173.out 3).trans rfl
     have hfz14_0 := blk_frozen BK173.out 0
     have hfz14_1 := blk_frozen BK173.out 1
     have hfz14_2 := blk_frozen BK173.out 2
     have hfz14_3 := blk_frozen BK173.out 3
     go_wp2
     go_meet
     case rel => exact ⟨_, (true), (by first | rfl | (simp; done) | (simp [*]; done) | (simp; rw [Bool.eq_iff_iff]; simp; done)), H', ⟨by first | omega | exact Nat.le_refl _⟩, ⟨by (with_reducible repeat (first | refine blk_drewN ?_ _ | refine blk_drew ?_ | refine blk_alloc ?_ _)); exact BK172.out⟩, ⟨by (with_reducible repeat (first | refine blk_drewN ?_ _ | refine blk_drew ?_ | refine blk_alloc ?_ _)); exact BK173.out⟩, ⟨by repeat (first | (with_reducible first | exact HB.out | apply below_alloc | apply pw_below_drewN | apply below_drew1 | refine below_set ?_ GE172.out | refine below_set ?_ GE173.out) | exact HB.out)⟩⟩
   ·
    rw [if_neg c7] at H
    have c7b0 : (a0_1.toList == a1_1.toList) = false := beq_eq_false_iff_ne.mpr c7
    have c7b1 : (a0_1.toList != a1_1.toList) = true := bne_iff_ne.mpr c7
    have H' := Aside0.mk H
    clear H
    have hnb15 := NB172_173.out
    have hnc15 := NB173_172.out
    have hcz16_0 : w5.cell? ⟨gb172, 0, none⟩ = some (.int .i64 a0_0) := (blk_cell BK172.out 0).trans rfl
    have hcz16_1 : w5.cell? ⟨gb172, 1, none⟩ = some (.string a0_1) := (blk_cell BK172.out 1).trans rfl
    have hcz16_2 : w5.cell? ⟨gb172, 2, none⟩ = some (.slice A0_2 l0_2.length c0_2) := (blk_cell BK172.out 2).trans rfl
    have hcz16_3 : w5.cell? ⟨gb172, 3, none⟩ = some (.slice A0_3 l0_3.length c0_3) := (blk_cell BK172.out 3).trans rfl
    have hfz16_0 := blk_frozen BK172.out 0
    have hfz16_1 := blk_frozen BK172.out 1
    have hfz16_2 := blk_frozen BK172.out 2
    have hfz16_3 := blk_frozen BK172.out 3
    have hcz17_0 : w5.cell? ⟨gb173, 0, none⟩ = some (.int .i64 a1_0) := (blk_cell BK173.out 0).trans rfl
    have hcz17_1 : w5.cell? ⟨gb173, 1, none⟩ = some (.string a1_1) := (blk_cell BK173.out 1).trans rfl
    have hcz17_2 : w5.cell? ⟨gb173, 2, none⟩ = some (.slice A1_2 l1_2.length c1_2) := (blk_cell BK173.out 2).trans rfl
    have hcz17_3 : w5.cell? ⟨gb173, 3, none⟩ = some (.slice A1_3 l1_3.length c1_3) := (blk_cell BK173.out 3).trans rfl
    have hfz17_0 := blk_frozen BK173.out 0
    have hfz17_1 := blk_frozen BK173.out 1
    have hfz17_2 := blk_frozen BK173.out 2
    have hfz17_3 := blk_frozen BK173.out 3
    go_wp2
    go_meet
    case rel => exact ⟨_, (true), (by first | rfl | (simp; done) | (simp [*]; done) | (simp; rw [Bool.eq_iff_iff]; simp; done)), H', ⟨by first | omega | exact Nat.le_refl _⟩, ⟨by (with_reducible repeat (first | refine blk_drewN ?_ _ | refine blk_drew ?_ | refine blk_alloc ?_ _)); exact BK172.out⟩, ⟨by (with_reducible repeat (first | refine blk_drewN ?_ _ | refine blk_drew ?_ | refine blk_alloc ?_ _)); exact BK173.out⟩, ⟨by repeat (first | (with_reducible first | exact HB.out | apply below_alloc | apply pw_below_drewN | apply below_drew1 | refine below_set ?_ GE172.out | refine below_set ?_ GE173.out) | exact HB.out)⟩⟩
  ·
   rw [if_neg c6] at H
   have c6b0 : (a0_0 == a1_0) = false := beq_eq_false_iff_ne.mpr c6
   have c6b1 : (a0_0 != a1_0) = true := bne_iff_ne.mpr c6
   (first | rw [c6b0] | (simp only [i64_w, i32_w]; rw [c6b0]) | skip)
   have H' := Aside0.mk H
   clear H
   have hnb18 := NB172_173.out
   have hnc18 := NB173_172.out
   have hcz19_0 : w5.cell? ⟨gb172, 0, none⟩ = some (.int .i64 a0_0) := (blk_cell BK172.out 0).trans rfl
   have hcz19_1 : w5.cell? ⟨gb172, 1, none⟩ = some (.string a0_1) := (blk_cell BK172.out 1).trans rfl
   have hcz19_2 : w5.cell? ⟨gb172, 2, none⟩ = some (.slice A0_2 l0_2.length c0_2) := (blk_cell BK172.out 2).trans rfl
   have hcz19_3 : w5.cell? ⟨gb172, 3, none⟩ = some (.slice A0_3 l0_3.length c0_3) := (blk_cell BK172.out 3).trans rfl
   have hfz19_0 := blk_frozen BK172.out 0
   have hfz19_1 := blk_frozen BK172.out 1
   have hfz19_2 := blk_frozen BK172.out 2
   have hfz19_3 := blk_frozen BK172.out 3
   have hcz20_0 : w5.cell? ⟨gb173, 0, none⟩ = some (.int .i64 a1_0) := (blk_cell BK173.out 0).trans rfl
   have hcz20_1 : w5.cell? ⟨gb173, 1, none⟩ = some (.string a1_1) := (blk_cell BK173.out 1).trans rfl
   have hcz20_2 : w5.cell? ⟨gb173, 2, none⟩ = some (.slice A1_2 l1_2.length c1_2) := (blk_cell BK173.out 2).trans rfl
   have hcz20_3 : w5.cell? ⟨gb173, 3, none⟩ = some (.slice A1_3 l1_3.length c1_3) := (blk_cell BK173.out 3).trans rfl
   have hfz20_0 := blk_frozen BK173.out 0
   have hfz20_1 := blk_frozen BK173.out 1
   have hfz20_2 := blk_frozen BK173.out 2
   have hfz20_3 := blk_frozen BK173.out 3
   go_wp2
   go_meet
   case rel => exact ⟨_, (true), (by first | rfl | (simp; done) | (simp [*]; done) | (simp; rw [Bool.eq_iff_iff]; simp; done)), H', ⟨by first | omega | exact Nat.le_refl _⟩, ⟨by (with_reducible repeat (first | refine blk_drewN ?_ _ | refine blk_drew ?_ | refine blk_alloc ?_ _)); exact BK172.out⟩, ⟨by (with_reducible repeat (first | refine blk_drewN ?_ _ | refine blk_drew ?_ | refine blk_alloc ?_ _)); exact BK173.out⟩, ⟨by repeat (first | (with_reducible first | exact HB.out | apply below_alloc | apply pw_below_drewN | apply below_drew1 | refine below_set ?_ GE172.out | refine below_set ?_ GE173.out) | exact HB.out)⟩⟩
 case rest =>
  clear HC3
  (try clear c1); (try clear p2); (try clear c6); (try clear c6b0); (try clear c6b1); (try clear c7); (try clear c7b0); (try clear c7b1); (try clear c8); (try clear c8b0); (try clear c8b1); (try clear c8b2); (try clear c9); (try clear c12); (try clear c15); (try clear c18); (try clear hcz10_0); (try clear hcz10_1); (try clear hcz10_2); (try clear hcz10_3); (try clear hcz11_0); (try clear hcz11_1); (try clear hcz11_2); (try clear hcz11_3); (try clear hcz13_0); (try clear hcz13_1); (try clear hcz13_2); (try clear hcz13_3); (try clear hcz14_0); (try clear hcz14_1); (try clear hcz14_2); (try clear hcz14_3); (try clear hcz16_0); (try clear hcz16_1); (try clear hcz16_2); (try clear hcz16_3); (try clear hcz17_0); (try clear hcz17_1); (try clear hcz17_2); (try clear hcz17_3); (try clear hcz19_0); (try clear hcz19_1); (try clear hcz19_2); (try clear hcz19_3); (try clear hcz20_0); (try clear hcz20_1); (try clear hcz20_2); (try clear hcz20_3); (try clear hfz10_0); (try clear hfz10_1); (try clear hfz10_2); (try clear hfz10_3); (try clear hfz11_0); (try clear hfz11_1); (try clear hfz11_2); (try clear hfz11_3); (try clear hfz13_0); (try clear hfz13_1); (try clear hfz13_2); (try clear hfz13_3); (try clear hfz14_0); (try clear hfz14_1); (try clear hfz14_2); (try clear hfz14_3); (try clear hfz16_0); (try clear hfz16_1); (try clear hfz16_2); (try clear hfz16_3); (try clear hfz17_0); (try clear hfz17_1); (try clear hfz17_2); (try clear hfz17_3); (try clear hfz19_0); (try clear hfz19_1); (try clear hfz19_2); (try clear hfz19_3); (try clear hfz20_0); (try clear hfz20_1); (try clear hfz20_2); (try clear hfz20_3)
  obtain ⟨kq, x37_2, rfl, HA, HJ2, BK172, BK173, HB⟩ := hcut
  cases kq with
  | zero => exact absurd HA.out (by simp [spec_Alike.j0])
  | succ kj2 =>
   have H := HA.out
   clear HA
   simp only [spec_Alike.j0] at H
   by_cases c21 : x37_2 = true
   ·
    subst c21
    have H1 : (some false) = some r := by rw [if_pos rfl] at H; exact H
    clear H
    have H := H1
    clear H1
    obtain rfl := Option.some.inj H
    go_wp2
    go_ret
    exact ⟨by first | rfl | (simp [errW_none, errW_some] <;> rfl) | (simp [*, errW_none, errW_some] <;> rfl), by repeat (first | (with_reducible first | exact HB.out | apply below_alloc | apply pw_below_drewN | apply below_drew1 | refine below_set ?_ GE172.out | refine below_set ?_ GE173.out) | exact HB.out)⟩
   ·
    replace c21 := Bool.eq_false_iff.mpr c21
    subst c21
    have H1 : (spec_Alike.l0 kj2 l0_3 (l0_3.length : Int) 0 a0_0 a0_1 l0_2 l0_3 a1_0 a1_1 l1_2 l1_3) = some r := by rw [if_neg (show ¬ (false = true) by decide)] at H; exact H
    clear H
    have H := H1
    clear H1
    have H' := Aside0.mk H
    clear H
    have hnb22 := NB172_173.out
    have hnc22 := NB173_172.out
    have hcz23_0 : wc.cell? ⟨gb172, 0, none⟩ = some (.int .i64 a0_0) := (blk_cell BK172.out 0).trans rfl
    have hcz23_1 : wc.cell? ⟨gb172, 1, none⟩ = some (.string a0_1) := (blk_cell BK172.out 1).trans rfl
    have hcz23_2 : wc.cell? ⟨gb172, 2, none⟩ = some (.slice A0_2 l0_2.length c0_2) := (blk_cell BK172.out 2).trans rfl
    have hcz23_3 : wc.cell? ⟨gb172, 3, none⟩ = some (.slice A0_3 l0_3.length c0_3) := (blk_cell BK172.out 3).trans rfl
    have hfz23_0 := blk_frozen BK172.out 0
    have hfz23_1 := blk_frozen BK172.out 1
    have hfz23_2 := blk_frozen BK172.out 2
    have hfz23_3 := blk_frozen BK172.out 3
    go_wp2
    try simp only [Act.put, List.setIfInBounds_toArray, List.set_cons_succ, List.set_cons_zero]
    go_loopg [41] kj2 (fun kq v41 w' => ∃ (x41_2 : Int), v41 = .int .i64 x41_2 ∧ Aside0 (spec_Alike.l0 kq l0_3 (l0_3.length : Int) x41_2 a0_0 a0_1 l0_2 l0_3 a1_0 a1_1 l1_2 l1_3 = some r) ∧ Aside0 (kq ≤ kj2) ∧ Aside0 (w'.heap[gb172]? = some (.cells #[.int .i64 a0_0, .string a0_1, (.slice A0_2 l0_2.length c0_2), (.slice A0_3 l0_3.length c0_3)] 25 (0, 0))) ∧ Aside0 (w'.heap[gb173]? = some (.cells #[.int .i64 a1_0, .string a1_1, (.slice A1_2 l1_2.length c1_2), (.slice A1_3 l1_3.length c1_3)] 25 (0, 0))) ∧ Aside0 (Below w.heap.size w w'))
    case atStart => exact ⟨(0), (by first | rfl | (simp; done) | (simp [*]; done) | (simp; rw [Bool.eq_iff_iff]; simp; done)), H', ⟨Nat.le_refl _⟩, ⟨by (with_reducible repeat (first | refine blk_drewN ?_ _ | refine blk_drew ?_ | refine blk_alloc ?_ _)); exact BK172.out⟩, ⟨by (with_reducible repeat (first | refine blk_drewN ?_ _ | refine blk_drew ?_ | refine blk_alloc ?_ _)); exact BK173.out⟩, ⟨by repeat (first | (with_reducible first | exact HB.out | apply below_alloc | apply pw_below_drewN | apply below_drew1 | refine below_set ?_ GE172.out | refine below_set ?_ GE173.out) | exact HB.out)⟩⟩
    case round =>
     clear H'
     (try clear c1); (try clear c2); (try clear p2); (try clear c6); (try clear c6b0); (try clear c6b1); (try clear c7); (try clear c7b0); (try clear c7b1); (try clear c8); (try clear c8b0); (try clear c8b1); (try clear c8b2); (try clear c9); (try clear c12); (try clear c15); (try clear c18); (try clear c21); (try clear c22); (try clear hcz10_0); (try clear hcz10_1); (try clear hcz10_2); (try clear hcz10_3); (try clear hcz11_0); (try clear hcz11_1); (try clear hcz11_2); (try clear hcz11_3); (try clear hcz13_0); (try clear hcz13_1); (try clear hcz13_2); (try clear hcz13_3); (try clear hcz14_0); (try clear hcz14_1); (try clear hcz14_2); (try clear hcz14_3); (try clear hcz16_0); (try clear hcz16_1); (try clear hcz16_2); (try clear hcz16_3); (try clear hcz17_0); (try clear hcz17_1); (try clear hcz17_2); (try clear hcz17_3); (try clear hcz19_0); (try clear hcz19_1); (try clear hcz19_2); (try clear hcz19_3); (try clear hcz20_0); (try clear hcz20_1); (try clear hcz20_2); (try clear hcz20_3); (try clear hcz23_0); (try clear hcz23_1); (try clear hcz23_2); (try clear hcz23_3); (try clear hfz10_0); (try clear hfz10_1); (try clear hfz10_2); (try clear hfz10_3); (try clear hfz11_0); (try clear hfz11_1); (try clear hfz11_2); (try clear hfz11_3); (try clear hfz13_0); (try clear hfz13_1); (try clear hfz13_2); (try clear hfz13_3); (try clear hfz14_0); (try clear hfz14_1); (try clear hfz14_2); (try clear hfz14_3); (try clear hfz16_0); (try clear hfz16_1); (try clear hfz16_2); (try clear hfz16_3); (try clear hfz17_0); (try clear hfz17_1); (try clear hfz17_2); (try clear hfz17_3); (try clear hfz19_0); (try clear hfz19_1); (try clear hfz19_2); (try clear hfz19_3); (try clear hfz20_0); (try clear hfz20_1); (try clear hfz20_2); (try clear hfz20_3); (try clear hfz23_0); (try clear hfz23_1); (try clear hfz23_2); (try clear hfz23_3); (try clear p2)
     obtain ⟨x41_2, rfl, HA, HK2, BK172, BK173, HB⟩ := hrel
     cases gk with
     | zero => exact absurd HA.out (by simp [spec_Alike.l0])
     | succ k2 =>
      have H := HA.out
      clear HA
      simp only [spec_Alike.l0] at H
      by_cases c24 : x41_2 < (l0_3.length : Int)
      ·
       rw [if_pos c24] at H
       have c24b0 : decide (x41_2 < (l0_3.length : Int)) = true := decide_eq_true c24
       clear c24
       by_cases c25 : 0 ≤ x41_2
       ·
        rw [if_pos c25] at H
        have c25b0 : decide (0 ≤ x41_2) = true := decide_eq_true c25
        clear c25
        by_cases c26 : x41_2 < (l0_3.length : Int)
        ·
         rw [if_pos c26] at H
         have c26b0 : decide (x41_2 < (l0_3.length : Int)) = true := decide_eq_true c26
         clear c26
         by_cases c27 : a0_0 = 6
         ·
          rw [if_pos c27] at H
          have c27b0 : (a0_0 == 6) = true := beq_iff_eq.mpr c27
          have c27b1 : (a0_0 != 6) = false := bne_eq_false_iff_eq.mpr c27
          clear c27
          by_cases c28 : x41_2 < (l0_2.length : Int)
          ·
           rw [if_pos c28] at H
           have c28b0 : decide (x41_2 < (l0_2.length : Int)) = true := decide_eq_true c28
           clear c28
           replace H := Option.bind_eq_some_iff.mp H
           obtain ⟨t177, A290, H⟩ := H
           replace H : (if t177 < 0 then (some false) else (if 0 ≤ t177 then (if t177 < (l1_3.length : Int) then ((spec_Alike.f k2 ((rd_T25 l0_3 x41_2).f0) ((rd_T25 l0_3 x41_2).f1) ((rd_T25 l0_3 x41_2).f2) ((rd_T25 l0_3 x41_2).f3) ((rd_T25 l1_3 t177).f0) ((rd_T25 l1_3 t177).f1) ((rd_T25 l1_3 t177).f2) ((rd_T25 l1_3 t177).f3)).bind fun t179 => (if t179 = true then (spec_Alike.l0 k2 l0_3 (l0_3.length : Int) (wrap64 (x41_2 + 1)) a0_0 a0_1 l0_2 l0_3 a1_0 a1_1 l1_2 l1_3) else (some false))) else (none)) else (none))) = some r := H
           have A29 := Aside0.mk A290
           clear A290
           by_cases c30 : t177 < 0
           ·
            rw [if_pos c30] at H
            have c30b0 : decide (t177 < 0) = true := decide_eq_true c30
            clear c30
            obtain rfl := Option.some.inj H
            have p174 : 0 ≤ (x41_2 : Int) := of_decide_eq_true (by first | (with_reducible assumption) | assumption)
            have q174 : x41_2 < (l0_3.length : Int) := of_decide_eq_true (by first | (with_reducible assumption) | assumption)
            obtain ⟨ad174, A174_2, c174_2, A174_3, c174_3, e174, hx174_0, hx174_1, hx174_2, hx174_3, hl174_2, hi174_2, hl174_3, hi174_3⟩ := at_T25 HR0_3.out x41_2 p174 q174
            cases e174
            replace hx174_0 := (HB.out.cell (World.block_lt_of_cell? w _ hx174_0)).trans hx174_0
            replace hx174_1 := (HB.out.cell (World.block_lt_of_cell? w _ hx174_1)).trans hx174_1
            replace hx174_2 := (HB.out.cell (World.block_lt_of_cell? w _ hx174_2)).trans hx174_2
            replace hx174_3 := (HB.out.cell (World.block_lt_of_cell? w _ hx174_3)).trans hx174_3
            have HR174_2 := Aside0.mk hi174_2
            have HC174_2 := Aside0.mk hl174_2
            clear hi174_2 hl174_2
            have HR174_3 := Aside0.mk hi174_3
            have HC174_3 := Aside0.mk hl174_3
            clear hi174_3 hl174_3
            replace p174 := eq_true p174
            replace q174 := eq_true q174
            try go_wp2_with (first | ((with_reducible refine gate_dst (N := 6) rfl ?_); (try (refine gate_guard (by rfl) ?_; dsimp only)); refine box_event ?hg (N := 6) ?hd (cs := #[.int .i64 0, .string (⟨#[]⟩ : ByteArray), .slice none 0 0, .slice none 0 0]) (t := 25) ?hr ?_; (case hd => rfl); (case hg => rfl); (case hr => first | (go_simp; done) | (go_simp; rfl)); intro gb175 hg w31 hbox hb; have n0_ := Aside0.mk (blk_below (g := gb172) (o := .cells #[.int .i64 a0_0, .string a0_1, .slice A0_2 l0_2.length c0_2, .slice (some ad174) l0_3.length c0_3] 25 (0, 0)) (by (with_reducible repeat (first | refine blk_drewN ?_ _ | refine blk_drew ?_ | refine blk_alloc ?_ _)); exact BK172.out) hb); have n1_ := Aside0.mk (blk_below (g := gb173) (o := .cells #[.int .i64 a1_0, .string a1_1, .slice A1_2 l1_2.length c1_2, .slice A1_3 l1_3.length c1_3] 25 (0, 0)) (by (with_reducible repeat (first | refine blk_drewN ?_ _ | refine blk_drew ?_ | refine blk_alloc ?_ _)); exact BK173.out) hb); have n2_ := Aside0.mk (below_step (by repeat (first | (with_reducible first | exact HB.out | apply below_alloc | apply pw_below_drewN | apply below_drew1 | refine below_set ?_ GE172.out | refine below_set ?_ GE173.out) | exact HB.out)) hb); have n3_ := Aside0.mk (hbox); have n4_ := Aside0.mk ((by rw [hg]; exact (below_size (by repeat (first | (with_reducible first | exact HB.out | apply below_alloc | apply pw_below_drewN | apply below_drew1 | refine below_set ?_ GE172.out | refine below_set ?_ GE173.out) | exact HB.out))) : w.heap.size ≤ gb175)); have n5_ := Aside0.mk ((by rw [hg]; exact (below_size (by repeat (first | (with_reducible first | exact HB.out | apply below_alloc | apply pw_below_drewN | apply below_drew1 | refine below_set ?_ GE172.out | refine below_set ?_ GE173.out) | exact HB.out))) : w.heap.size ≤ gb175)); have n6_ := Aside0.mk ((by rw [hg]; exact Nat.ne_of_lt (blk_lt (g := gb172) (o := .cells #[.int .i64 a0_0, .string a0_1, .slice A0_2 l0_2.length c0_2, .slice (some ad174) l0_3.length c0_3] 25 (0, 0)) (by (with_reducible repeat (first | refine blk_drewN ?_ _ | refine blk_drew ?_ | refine blk_alloc ?_ _)); exact BK172.out)) : gb172 ≠ gb175)); have n7_ := Aside0.mk ((by rw [hg]; exact Nat.ne_of_gt (blk_lt (g := gb172) (o := .cells #[.int .i64 a0_0, .string a0_1, .slice A0_2 l0_2.length c0_2, .slice (some ad174) l0_3.length c0_3] 25 (0, 0)) (by (with_reducible repeat (first | refine blk_drewN ?_ _ | refine blk_drew ?_ | refine blk_alloc ?_ _)); exact BK172.out)) : gb175 ≠ gb172)); have n8_ := Aside0.mk ((by rw [hg]; exact Nat.ne_of_lt (blk_lt (g := gb173) (o := .cells #[.int .i64 a1_0, .string a1_1, .slice A1_2 l1_2.length c1_2, .slice A1_3 l1_3.length c1_3] 25 (0, 0)) (by (with_reducible repeat (first | refine blk_drewN ?_ _ | refine blk_drew ?_ | refine blk_alloc ?_ _)); exact BK173.out)) : gb173 ≠ gb175)); have n9_ := Aside0.mk ((by rw [hg]; exact Nat.ne_of_gt (blk_lt (g := gb173) (o := .cells #[.int .i64 a1_0, .string a1_1, .slice A1_2 l1_2.length c1_2, .slice A1_3 l1_3.length c1_3] 25 (0, 0)) (by (with_reducible repeat (first | refine blk_drewN ?_ _ | refine blk_drew ?_ | refine blk_alloc ?_ _)); exact BK173.out)) : gb175 ≠ gb173)); clear BK172; clear BK173; clear HB; have BK172 := n0_; have BK173 := n1_; have HB := n2_; have BK175 := n3_; have GW175 := n4_; have GE175 := n5_; have NB172_175 := n6_; have NB175_172 := n7_; have NB173_175 := n8_; have NB175_173 := n9_; clear n0_ n1_ n2_ n3_ n4_ n5_ n6_ n7_ n8_ n9_; clear hb hbox hg; have hnb32 := NB175_172.out; have hnc32 := NB172_175.out; have hnb33 := NB175_173.out; have hnc33 := NB173_175.out; have hcz34_0 : w31.cell? ⟨gb175, 0, none⟩ = some (.int .i64 0) := (blk_cell BK175.out 0).trans rfl; have hcz34_1 : w31.cell? ⟨gb175, 1, none⟩ = some (.string (⟨#[]⟩ : ByteArray)) := (blk_cell BK175.out 1).trans rfl; have hcz34_2 : w31.cell? ⟨gb175, 2, none⟩ = some (.slice none 0 0) := (blk_cell BK175.out 2).trans rfl; have hcz34_3 : w31.cell? ⟨gb175, 3, none⟩ = some (.slice none 0 0) := (blk_cell BK175.out 3).trans rfl; have hfz34_0 := blk_frozen BK175.out 0; have hfz34_1 := blk_frozen BK175.out 1; have hfz34_2 := blk_frozen BK175.out 2; have hfz34_3 := blk_frozen BK175.out 3; have hnb35 := NB172_173.out; have hnc35 := NB173_172.out; have hcz36_0 : w31.cell? ⟨gb172, 0, none⟩ = some (.int .i64 a0_0) := (blk_cell BK172.out 0).trans rfl; have hcz36_1 : w31.cell? ⟨gb172, 1, none⟩ = some (.string a0_1) := (blk_cell BK172.out 1).trans rfl; have hcz36_2 : w31.cell? ⟨gb172, 2, none⟩ = some (.slice A0_2 l0_2.length c0_2) := (blk_cell BK172.out 2).trans rfl; have hcz36_3 : w31.cell? ⟨gb172, 3, none⟩ = some (.slice (some ad174) l0_3.length c0_3) := (blk_cell BK172.out 3).trans rfl; have hfz36_0 := blk_frozen BK172.out 0; have hfz36_1 := blk_frozen BK172.out 1; have hfz36_2 := blk_frozen BK172.out 2; have hfz36_3 := blk_frozen BK172.out 3))
            have n0_ : Aside0 (((((w31.setCell ⟨gb175, 0, none⟩ (.int .i64 ((rd_T25 l0_3 x41_2).f0))).setCell ⟨gb175, 1, none⟩ (.string ((rd_T25 l0_3 x41_2).f1))).setCell ⟨gb175, 2, none⟩ (.slice A174_2 ((rd_T25 l0_3 x41_2).f2).length c174_2)).setCell ⟨gb175, 3, none⟩ (.slice A174_3 ((rd_T25 l0_3 x41_2).f3).length c174_3)).heap[gb172]? = some (.cells #[.int .i64 a0_0, .string a0_1, .slice A0_2 l0_2.length c0_2, .slice (some ad174) l0_3.length c0_3] 25 (0, 0))) := ⟨by (with_reducible repeat (first | refine blk_drewN ?_ _ | refine blk_drew ?_ | refine blk_alloc ?_ _)); refine blk_far ?_ NB172_175.out _; (with_reducible repeat (first | refine blk_drewN ?_ _ | refine blk_drew ?_ | refine blk_alloc ?_ _)); refine blk_far ?_ NB172_175.out _; (with_reducible repeat (first | refine blk_drewN ?_ _ | refine blk_drew ?_ | refine blk_alloc ?_ _)); refine blk_far ?_ NB172_175.out _; (with_reducible repeat (first | refine blk_drewN ?_ _ | refine blk_drew ?_ | refine blk_alloc ?_ _)); refine blk_far ?_ NB172_175.out _; (with_reducible repeat (first | refine blk_drewN ?_ _ | refine blk_drew ?_ | refine blk_alloc ?_ _)); exact BK172.out⟩
            have n1_ : Aside0 (((((w31.setCell ⟨gb175, 0, none⟩ (.int .i64 ((rd_T25 l0_3 x41_2).f0))).setCell ⟨gb175, 1, none⟩ (.string ((rd_T25 l0_3 x41_2).f1))).setCell ⟨gb175, 2, none⟩ (.slice A174_2 ((rd_T25 l0_3 x41_2).f2).length c174_2)).setCell ⟨gb175, 3, none⟩ (.slice A174_3 ((rd_T25 l0_3 x41_2).f3).length c174_3)).heap[gb173]? = some (.cells #[.int .i64 a1_0, .string a1_1, .slice A1_2 l1_2.length c1_2, .slice A1_3 l1_3.length c1_3] 25 (0, 0))) := ⟨by (with_reducible repeat (first | refine blk_drewN ?_ _ | refine blk_drew ?_ | refine blk_alloc ?_ _)); refine blk_far ?_ NB173_175.out _; (with_reducible repeat (first | refine blk_drewN ?_ _ | refine blk_drew ?_ | refine blk_alloc ?_ _)); refine blk_far ?_ NB173_175.out _; (with_reducible repeat (first | refine blk_drewN ?_ _ | refine blk_drew ?_ | refine blk_alloc ?_ _)); refine blk_far ?_ NB173_175.out _; (with_reducible repeat (first | refine blk_drewN ?_ _ | refine blk_drew ?_ | refine blk_alloc ?_ _)); refine blk_far ?_ NB173_175.out _; (with_reducible repeat (first | refine blk_drewN ?_ _ | refine blk_drew ?_ | refine blk_alloc ?_ _)); exact BK173.out⟩
            have n2_ : Aside0 (((((w31.setCell ⟨gb175, 0, none⟩ (.int .i64 ((rd_T25 l0_3 x41_2).f0))).setCell ⟨gb175, 1, none⟩ (.string ((rd_T25 l0_3 x41_2).f1))).setCell ⟨gb175, 2, none⟩ (.slice A174_2 ((rd_T25 l0_3 x41_2).f2).length c174_2)).setCell ⟨gb175, 3, none⟩ (.slice A174_3 ((rd_T25 l0_3 x41_2).f3).length c174_3)).heap[gb175]? = some (.cells #[.int .i64 ((rd_T25 l0_3 x41_2).f0), .string ((rd_T25 l0_3 x41_2).f1), .slice A174_2 ((rd_T25 l0_3 x41_2).f2).length c174_2, .slice A174_3 ((rd_T25 l0_3 x41_2).f3).length c174_3] 25 (0, 0))) := ⟨by (with_reducible repeat (first | refine blk_drewN ?_ _ | refine blk_drew ?_ | refine blk_alloc ?_ _)); refine blk_put (cs := #[.int .i64 ((rd_T25 l0_3 x41_2).f0), .string ((rd_T25 l0_3 x41_2).f1), .slice A174_2 ((rd_T25 l0_3 x41_2).f2).length c174_2, .slice none 0 0]) ?_ 3 _ rfl; (with_reducible repeat (first | refine blk_drewN ?_ _ | refine blk_drew ?_ | refine blk_alloc ?_ _)); refine blk_put (cs := #[.int .i64 ((rd_T25 l0_3 x41_2).f0), .string ((rd_T25 l0_3 x41_2).f1), .slice none 0 0, .slice none 0 0]) ?_ 2 _ rfl; (with_reducible repeat (first | refine blk_drewN ?_ _ | refine blk_drew ?_ | refine blk_alloc ?_ _)); refine blk_put (cs := #[.int .i64 ((rd_T25 l0_3 x41_2).f0), .string (⟨#[]⟩ : ByteArray), .slice none 0 0, .slice none 0 0]) ?_ 1 _ rfl; (with_reducible repeat (first | refine blk_drewN ?_ _ | refine blk_drew ?_ | refine blk_alloc ?_ _)); refine blk_put (cs := #[.int .i64 0, .string (⟨#[]⟩ : ByteArray), .slice none 0 0, .slice none 0 0]) ?_ 0 _ rfl; (with_reducible repeat (first | refine blk_drewN ?_ _ | refine blk_drew ?_ | refine blk_alloc ?_ _)); exact BK175.out⟩
            have n3_ : Aside0 (Below w.heap.size w ((((w31.setCell ⟨gb175, 0, none⟩ (.int .i64 ((rd_T25 l0_3 x41_2).f0))).setCell ⟨gb175, 1, none⟩ (.string ((rd_T25 l0_3 x41_2).f1))).setCell ⟨gb175, 2, none⟩ (.slice A174_2 ((rd_T25 l0_3 x41_2).f2).length c174_2)).setCell ⟨gb175, 3, none⟩ (.slice A174_3 ((rd_T25 l0_3 x41_2).f3).length c174_3))) := ⟨by repeat (first | (with_reducible first | exact HB.out | apply below_alloc | apply pw_below_drewN | apply below_drew1 | refine below_set ?_ GE172.out | refine below_set ?_ GE173.out | refine below_set ?_ GE175.out) | exact HB.out)⟩
            (try clear BK172)
            (try clear BK173)
            (try clear BK175)
            (try clear HB)
            generalize ((((w31.setCell ⟨gb175, 0, none⟩ (.int .i64 ((rd_T25 l0_3 x41_2).f0))).setCell ⟨gb175, 1, none⟩ (.string ((rd_T25 l0_3 x41_2).f1))).setCell ⟨gb175, 2, none⟩ (.slice A174_2 ((rd_T25 l0_3 x41_2).f2).length c174_2)).setCell ⟨gb175, 3, none⟩ (.slice A174_3 ((rd_T25 l0_3 x41_2).f3).length c174_3)) = w37 at n0_ n1_ n2_ n3_ ⊢
            have BK172 := n0_
            have BK173 := n1_
            have BK175 := n2_
            have HB := n3_
            clear n0_ n1_ n2_ n3_
            have n0_ := Aside0.mk (blk_drew BK172.out)
            have n1_ := Aside0.mk (blk_drew BK173.out)
            have n2_ := Aside0.mk (blk_drew BK175.out)
            have n3_ := Aside0.mk (below_drew1 HB.out)
            clear BK172
            clear BK173
            clear BK175
            clear HB
            have BK172 := n0_
            have BK173 := n1_
            have BK175 := n2_
            have HB := n3_
            clear n0_ n1_ n2_ n3_
            have p176 : 0 ≤ (x41_2 : Int) := of_decide_eq_true (by first | (with_reducible assumption) | assumption)
            have q176 : x41_2 < (l0_2.length : Int) := of_decide_eq_true (by first | (with_reducible assumption) | assumption)
            obtain ⟨ad176, e176, hx176_0⟩ := Kd.at_string HR0_2.out x41_2 p176 q176
            have hw176_0 := hx176_0
            cases e176
            replace hx176_0 := (HB.out.cell (World.block_lt_of_cell? w _ hx176_0)).trans hx176_0
            replace p176 := eq_true p176
            replace q176 := eq_true q176
            refine start_ (n := 8) (S := fun w' => w'.cell? ⟨gb173, 0, none⟩ = some (.int .i64 a1_0) ∧ w'.cell? ⟨gb173, 1, none⟩ = some (.string a1_1) ∧ w'.cell? ⟨gb173, 2, none⟩ = some (.slice A1_2 l1_2.length c1_2) ∧ w'.cell? ⟨gb173, 3, none⟩ = some (.slice A1_3 l1_3.length c1_3) ∧ w'.cell? ⟨gb172, 0, none⟩ = some (.int .i64 a0_0) ∧ w'.cell? ⟨gb172, 1, none⟩ = some (.string a0_1) ∧ w'.cell? ⟨gb172, 2, none⟩ = some (.slice (some ad176) l0_2.length c0_2) ∧ w'.cell? ⟨gb172, 3, none⟩ = some (.slice (some ad174) l0_3.length c0_3) ∧ w'.cell? (ad176.add (x41_2).toNat) = some (.string (rdOf ByteArray.empty l0_2 x41_2))) (ds := []) #[false, false, false, false, false, false, false, false] (by kernel_rfl) rfl rfl ⟨(blk_cell BK173.out 0).trans rfl, (blk_cell BK173.out 1).trans rfl, (blk_cell BK173.out 2).trans rfl, (blk_cell BK173.out 3).trans rfl, (blk_cell BK172.out 0).trans rfl, (blk_cell BK172.out 1).trans rfl, (blk_cell BK172.out 2).trans rfl, (blk_cell BK172.out 3).trans rfl, ((HB.out.cell (World.block_lt_of_cell? w _ hw176_0)).trans hw176_0)⟩ (fun hHeld => ?_); refine with_tabW spec_Alike.tab8 spec_Alike.bits8 (fun HT_ HW_ => ?_)
            generalize w37.drew = w38 at BK172 BK173 BK175 HB hx176_0 hHeld ⊢
            refine pure_ (i := 1) (N := some 51) (v := ?_) (a' := ?_) #[false, true, false, false, false, false, false, false] rfl rfl (any_of HT_.out (by kernel_rfl)) (fun _ _ _ h => h) (Or.inl ⟨by rfl, ?_⟩) ?_ ?_
            rotate_left
            ·
             intro w'
             go_simp
             with_reducible rfl
            rotate_left
            ·
             simp only [Act.put, List.setIfInBounds_toArray, List.set_cons_zero, List.set_cons_succ, i64_w, i32_w]
             rfl
            refine pure_ (i := 3) (N := some 53) (v := ?_) (a' := ?_) #[false, true, false, true, false, false, false, false] rfl rfl (any_of HT_.out (by kernel_rfl)) (fun _ _ _ h => h) (Or.inl ⟨by rfl, ?_⟩) ?_ ?_
            rotate_left
            ·
             intro w'
             go_simp
             with_reducible rfl
            rotate_left
            ·
             simp only [Act.put, List.setIfInBounds_toArray, List.set_cons_zero, List.set_cons_succ, i64_w, i32_w]
             rfl
            refine take_ (i := 0) (N := some 50) (v := ?_) (a' := ?_) #[true, true, false, true, false, false, false, false] rfl rfl (take_ofW HT_.out HW_.out (by kernel_rfl)) (fun _ _ _ h => h) (Or.inl ⟨by rfl, ?_⟩) hHeld ?_ ?_
            rotate_left
            ·
             rintro w' ⟨s0, s1, s2, s3, s4, s5, s6, s7, s8⟩
             go_simp
             with_reducible rfl
            rotate_left
            ·
             simp only [Act.put, List.setIfInBounds_toArray, List.set_cons_zero, List.set_cons_succ, i64_w, i32_w]
             rfl
            refine take_ (i := 2) (N := some 52) (v := ?_) (a' := ?_) #[true, true, true, true, false, false, false, false] rfl rfl (take_ofW HT_.out HW_.out (by kernel_rfl)) (fun _ _ _ h => h) (Or.inl ⟨by rfl, ?_⟩) hHeld ?_ ?_
            rotate_left
            ·
             rintro w' ⟨s0, s1, s2, s3, s4, s5, s6, s7, s8⟩
             go_simp
             with_reducible rfl
            rotate_left
            ·
             simp only [Act.put, List.setIfInBounds_toArray, List.set_cons_zero, List.set_cons_succ, i64_w, i32_w]
             rfl
            refine pure_ (i := 4) (N := some 54) (v := ?_) (a' := ?_) #[true, true, true, true, true, false, false, false] rfl rfl (any_of HT_.out (by kernel_rfl)) (fun _ _ _ h => h) (Or.inl ⟨by rfl, ?_⟩) ?_ ?_
            rotate_left
            ·
             intro w'
             go_simp
             with_reducible rfl
            rotate_left
            ·
             simp only [Act.put, List.setIfInBounds_toArray, List.set_cons_zero, List.set_cons_succ, i64_w, i32_w]
             rfl
            refine take_ (i := 5) (N := some 55) (v := ?_) (a' := ?_) #[true, true, true, true, true, true, false, false] rfl rfl (take_ofW HT_.out HW_.out (by kernel_rfl)) (fun _ _ _ h => h) (Or.inl ⟨by rfl, ?_⟩) hHeld ?_ ?_
            rotate_left
            ·
             rintro w' ⟨s0, s1, s2, s3, s4, s5, s6, s7, s8⟩
             go_simp
             with_reducible rfl
            rotate_left
            ·
             simp only [Act.put, List.setIfInBounds_toArray, List.set_cons_zero, List.set_cons_succ, i64_w, i32_w]
             rfl
            refine one_ (i := 6) (N := some 56) #[true, true, true, true, true, true, true, false] rfl rfl (one_of HT_.out (by kernel_rfl)) (by decide) (fun K hK => ?_)
            refine goes_ Tryd.func12 (by kernel_rfl) rfl #[.agg #[.int .i64 a1_0, .string a1_1, .slice A1_2 l1_2.length c1_2, .slice A1_3 l1_3.length c1_3], .string (rdOf ByteArray.empty l0_2 x41_2)] (by rfl) rfl rfl (by (try simp only [List.map_toArray, List.map_cons, List.map_nil]); first | done | rfl | (simp only [List.length_drop, List.length_take]; rfl)) ?_
            with_reducible refine (spec_Member.calls k2 a1_0 a1_1 _ _ l1_2 _ _ l1_3 (rdOf ByteArray.empty l0_2 x41_2) t177 _ ?side1 ?side2 ?side3 ?side4 A29.out).mono ?_
            (case side1 => repeat (first | exact (Kd.C_below HR1_2.out HB.out) | (with_reducible refine Kd.C_alloc ?_ _) | (with_reducible refine Kd.C_drewN ?_ _) | (with_reducible refine Kd.C_drew ?_)))
            (case side2 => exact HC1_2.out)
            (case side3 => repeat (first | exact (Kd.C_below HR1_3.out HB.out) | (with_reducible refine Kd.C_alloc ?_ _) | (with_reducible refine Kd.C_drewN ?_ _) | (with_reducible refine Kd.C_drew ?_)))
            (case side4 => exact HC1_3.out)
            rintro e w39 ⟨rfl, hb⟩
            refine ⟨_, rfl, ?_⟩
            have n0_ := Aside0.mk (blk_below (g := gb172) (o := .cells #[.int .i64 a0_0, .string a0_1, .slice (some ad176) l0_2.length c0_2, .slice (some ad174) l0_3.length c0_3] 25 (0, 0)) (by (with_reducible repeat (first | refine blk_drewN ?_ _ | refine blk_drew ?_ | refine blk_alloc ?_ _)); exact BK172.out) hb)
            have n1_ := Aside0.mk (blk_below (g := gb173) (o := .cells #[.int .i64 a1_0, .string a1_1, .slice A1_2 l1_2.length c1_2, .slice A1_3 l1_3.length c1_3] 25 (0, 0)) (by (with_reducible repeat (first | refine blk_drewN ?_ _ | refine blk_drew ?_ | refine blk_alloc ?_ _)); exact BK173.out) hb)
            have n2_ := Aside0.mk (blk_below (g := gb175) (o := .cells #[.int .i64 ((rd_T25 l0_3 x41_2).f0), .string ((rd_T25 l0_3 x41_2).f1), .slice A174_2 ((rd_T25 l0_3 x41_2).f2).length c174_2, .slice A174_3 ((rd_T25 l0_3 x41_2).f3).length c174_3] 25 (0, 0)) (by (with_reducible repeat (first | refine blk_drewN ?_ _ | refine blk_drew ?_ | refine blk_alloc ?_ _)); exact BK175.out) hb)
            have n3_ := Aside0.mk (below_step (by repeat (first | (with_reducible first | exact HB.out | apply below_alloc | apply pw_below_drewN | apply below_drew1 | refine below_set ?_ GE172.out | refine below_set ?_ GE173.out | refine below_set ?_ GE175.out) | exact HB.out)) hb)
            clear BK172
            clear BK173
            clear BK175
            clear HB
            have BK172 := n0_
            have BK173 := n1_
            have BK175 := n2_
            have HB := n3_
            clear n0_ n1_ n2_ n3_
            (try clear hb)
            (try clear hb2)
            (try clear hk)
            (try clear hi)
            refine hK.out _ _ ⟨(blk_cell BK173.out 0).trans rfl, (blk_cell BK173.out 1).trans rfl, (blk_cell BK173.out 2).trans rfl, (blk_cell BK173.out 3).trans rfl, (blk_cell BK172.out 0).trans rfl, (blk_cell BK172.out 1).trans rfl, (blk_cell BK172.out 2).trans rfl, (blk_cell BK172.out 3).trans rfl, ((HB.out.cell (World.block_lt_of_cell? w _ hw176_0)).trans hw176_0)⟩ (fun hHeld => ?_)
            clear hK K
            refine norm_ (a' := ?_) ?_ ?_
            rotate_left
            ·
             show Act.put _ (some 56) _ = _
             simp only [Act.put, List.setIfInBounds_toArray, List.set_cons_zero, List.set_cons_succ, i64_w, i32_w]
             rfl
            refine pure_ (i := 7) (N := some 7) (v := ?_) (a' := ?_) #[true, true, true, true, true, true, true, true] rfl rfl (any_of HT_.out (by kernel_rfl)) (fun _ _ _ h => h) (Or.inl ⟨by rfl, ?_⟩) ?_ ?_
            rotate_left
            ·
             intro w'
             go_simp
             with_reducible rfl
            rotate_left
            ·
             simp only [Act.put, List.setIfInBounds_toArray, List.set_cons_zero, List.set_cons_succ, i64_w, i32_w]
             rfl
            refine done_ (done_of HT_.out (by kernel_rfl)) ?_
            try go_wp2
            have n0_ := Aside0.mk (blk_drew BK172.out)
            have n1_ := Aside0.mk (blk_drew BK173.out)
            have n2_ := Aside0.mk (blk_drew BK175.out)
            have n3_ := Aside0.mk (below_drew1 HB.out)
            clear BK172
            clear BK173
            clear BK175
            clear HB
            have BK172 := n0_
            have BK173 := n1_
            have BK175 := n2_
            have HB := n3_
            clear n0_ n1_ n2_ n3_
            refine start_ (n := 12) (S := fun w' => True) (ds := []) #[false, false, false, false, false, false, false, false, false, false, false, false] (by kernel_rfl) rfl rfl trivial (fun hHeld => ?_); refine with_tabW spec_Alike.tab9 spec_Alike.bits9 (fun HT_ HW_ => ?_)
            generalize w39.drew = w40 at BK172 BK173 BK175 HB hHeld ⊢
            refine pure_ (i := 0) (N := some 57) (v := ?_) (a' := ?_) #[true, false, false, false, false, false, false, false, false, false, false, false] rfl rfl (any_of HT_.out (by kernel_rfl)) (fun _ _ _ h => h) (Or.inl ⟨by rfl, ?_⟩) ?_ ?_
            rotate_left
            ·
             intro w'
             go_simp
             with_reducible rfl
            rotate_left
            ·
             simp only [Act.put, List.setIfInBounds_toArray, List.set_cons_zero, List.set_cons_succ, i64_w, i32_w]
             rfl
            refine pure_ (i := 1) (N := some 58) (v := ?_) (a' := ?_) #[true, true, false, false, false, false, false, false, false, false, false, false] rfl rfl (any_of HT_.out (by kernel_rfl)) (fun _ _ _ h => h) (Or.inl ⟨by rfl, ?_⟩) ?_ ?_
            rotate_left
            ·
             intro w'
             go_simp
             with_reducible rfl
            rotate_left
            ·
             simp only [Act.put, List.setIfInBounds_toArray, List.set_cons_zero, List.set_cons_succ, i64_w, i32_w]
             rfl
            refine pure_ (i := 2) (N := some 59) (v := ?_) (a' := ?_) #[true, true, true, false, false, false, false, false, false, false, false, false] rfl rfl (any_of HT_.out (by kernel_rfl)) (fun _ _ _ h => h) (Or.inl ⟨by rfl, ?_⟩) ?_ ?_
            rotate_left
            ·
             intro w'
             go_simp
             with_reducible rfl
            rotate_left
            ·
             simp only [Act.put, List.setIfInBounds_toArray, List.set_cons_zero, List.set_cons_succ, i64_w, i32_w]
             rfl
            refine pure_ (i := 3) (N := some 60) (v := undef) (a' := ?_) #[true, true, true, true, false, false, false, false, false, false, false, false] rfl rfl (any_of HT_.out (by kernel_rfl)) (fun _ _ _ h => h) (Or.inr ⟨by rfl, rfl⟩) ?_ ?_
            rotate_left
            ·
             simp only [Act.put, List.setIfInBounds_toArray, List.set_cons_zero, List.set_cons_succ, i64_w, i32_w]
             rfl
            refine pure_ (i := 4) (N := some 61) (v := undef) (a' := ?_) #[true, true, true, true, true, false, false, false, false, false, false, false] rfl rfl (any_of HT_.out (by kernel_rfl)) (fun _ _ _ h => h) (Or.inr ⟨by rfl, rfl⟩) ?_ ?_
            rotate_left
            ·
             simp only [Act.put, List.setIfInBounds_toArray, List.set_cons_zero, List.set_cons_succ, i64_w, i32_w]
             rfl
            refine pure_ (i := 5) (N := some 62) (v := undef) (a' := ?_) #[true, true, true, true, true, true, false, false, false, false, false, false] rfl rfl (any_of HT_.out (by kernel_rfl)) (fun _ _ _ h => h) (Or.inr ⟨by rfl, rfl⟩) ?_ ?_
            rotate_left
            ·
             simp only [Act.put, List.setIfInBounds_toArray, List.set_cons_zero, List.set_cons_succ, i64_w, i32_w]
             rfl
            refine pure_ (i := 6) (N := some 63) (v := undef) (a' := ?_) #[true, true, true, true, true, true, true, false, false, false, false, false] rfl rfl (any_of HT_.out (by kernel_rfl)) (fun _ _ _ h => h) (Or.inr ⟨by rfl, rfl⟩) ?_ ?_
            rotate_left
            ·
             simp only [Act.put, List.setIfInBounds_toArray, List.set_cons_zero, List.set_cons_succ, i64_w, i32_w]
             rfl
            refine pure_ (i := 7) (N := some 64) (v := undef) (a' := ?_) #[true, true, true, true, true, true, true, true, false, false, false, false] rfl rfl (any_of HT_.out (by kernel_rfl)) (fun _ _ _ h => h) (Or.inr ⟨by rfl, rfl⟩) ?_ ?_
            rotate_left
            ·
             simp only [Act.put, List.setIfInBounds_toArray, List.set_cons_zero, List.set_cons_succ, i64_w, i32_w]
             rfl
            refine pure_ (i := 8) (N := some 65) (v := undef) (a' := ?_) #[true, true, true, true, true, true, true, true, true, false, false, false] rfl rfl (any_of HT_.out (by kernel_rfl)) (fun _ _ _ h => h) (Or.inr ⟨by rfl, rfl⟩) ?_ ?_
            rotate_left
            ·
             simp only [Act.put, List.setIfInBounds_toArray, List.set_cons_zero, List.set_cons_succ, i64_w, i32_w]
             rfl
            refine pure_ (i := 9) (N := some 66) (v := undef) (a' := ?_) #[true, true, true, true, true, true, true, true, true, true, false, false] rfl rfl (any_of HT_.out (by kernel_rfl)) (fun _ _ _ h => h) (Or.inr ⟨by rfl, rfl⟩) ?_ ?_
            rotate_left
            ·
             simp only [Act.put, List.setIfInBounds_toArray, List.set_cons_zero, List.set_cons_succ, i64_w, i32_w]
             rfl
            refine pure_ (i := 10) (N := some 67) (v := undef) (a' := ?_) #[true, true, true, true, true, true, true, true, true, true, true, false] rfl rfl (any_of HT_.out (by kernel_rfl)) (fun _ _ _ h => h) (Or.inr ⟨by rfl, rfl⟩) ?_ ?_
            rotate_left
            ·
             simp only [Act.put, List.setIfInBounds_toArray, List.set_cons_zero, List.set_cons_succ, i64_w, i32_w]
             rfl
            refine pure_ (i := 11) (N := some 68) (v := ?_) (a' := ?_) #[true, true, true, true, true, true, true, true, true, true, true, true] rfl rfl (any_of HT_.out (by kernel_rfl)) (fun _ _ _ h => h) (Or.inl ⟨by rfl, ?_⟩) ?_ ?_
            rotate_left
            ·
             intro w'
             go_simp
             with_reducible rfl
            rotate_left
            ·
             simp only [Act.put, List.setIfInBounds_toArray, List.set_cons_zero, List.set_cons_succ, i64_w, i32_w]
             rfl
            refine done_ (done_of HT_.out (by kernel_rfl)) ?_
            try go_wp2
            go_ret
            exact ⟨by first | rfl | (simp [errW_none, errW_some] <;> rfl) | (simp [*, errW_none, errW_some] <;> rfl), by repeat (first | (with_reducible first | exact HB.out | apply below_alloc | apply pw_below_drewN | apply below_drew1 | refine below_set ?_ GE172.out | refine below_set ?_ GE173.out | refine below_set ?_ GE175.out) | exact HB.out)⟩
           ·
            rw [if_neg c30] at H
            have c30b0 : decide (t177 < 0) = false := decide_eq_false c30
            clear c30
            by_cases c41 : 0 ≤ t177
            ·
             rw [if_pos c41] at H
             have c41b0 : decide (0 ≤ t177) = true := decide_eq_true c41
             clear c41
             by_cases c42 : t177 < (l1_3.length : Int)
             ·
              rw [if_pos c42] at H
              have c42b0 : decide (t177 < (l1_3.length : Int)) = true := decide_eq_true c42
              clear c42
              replace H := Option.bind_eq_some_iff.mp H
              obtain ⟨t179, A430, H⟩ := H
              replace H : (if t179 = true then (spec_Alike.l0 k2 l0_3 (l0_3.length : Int) (wrap64 (x41_2 + 1)) a0_0 a0_1 l0_2 l0_3 a1_0 a1_1 l1_2 l1_3) else (some false)) = some r := H
              have A43 := Aside0.mk A430
              clear A430
              by_cases c44 : t179 = true
              ·
               subst c44
               have H1 : (spec_Alike.l0 k2 l0_3 (l0_3.length : Int) (wrap64 (x41_2 + 1)) a0_0 a0_1 l0_2 l0_3 a1_0 a1_1 l1_2 l1_3) = some r := by rw [if_pos rfl] at H; exact H
               clear H
               have H := H1
               clear H1
               have H' := Aside0.mk H
               clear H
               have p174 : 0 ≤ (x41_2 : Int) := of_decide_eq_true (by first | (with_reducible assumption) | assumption)
               have q174 : x41_2 < (l0_3.length : Int) := of_decide_eq_true (by first | (with_reducible assumption) | assumption)
               obtain ⟨ad174, A174_2, c174_2, A174_3, c174_3, e174, hx174_0, hx174_1, hx174_2, hx174_3, hl174_2, hi174_2, hl174_3, hi174_3⟩ := at_T25 HR0_3.out x41_2 p174 q174
               cases e174
               replace hx174_0 := (HB.out.cell (World.block_lt_of_cell? w _ hx174_0)).trans hx174_0
               replace hx174_1 := (HB.out.cell (World.block_lt_of_cell? w _ hx174_1)).trans hx174_1
               replace hx174_2 := (HB.out.cell (World.block_lt_of_cell? w _ hx174_2)).trans hx174_2
               replace hx174_3 := (HB.out.cell (World.block_lt_of_cell? w _ hx174_3)).trans hx174_3
               have HR174_2 := Aside0.mk hi174_2
               have HC174_2 := Aside0.mk hl174_2
               clear hi174_2 hl174_2
               have HR174_3 := Aside0.mk hi174_3
               have HC174_3 := Aside0.mk hl174_3
               clear hi174_3 hl174_3
               replace p174 := eq_true p174
               replace q174 := eq_true q174
               try go_wp2_with (first | ((with_reducible refine gate_dst (N := 6) rfl ?_); (try (refine gate_guard (by rfl) ?_; dsimp only)); refine box_event ?hg (N := 6) ?hd (cs := #[.int .i64 0, .string (⟨#[]⟩ : ByteArray), .slice none 0 0, .slice none 0 0]) (t := 25) ?hr ?_; (case hd => rfl); (case hg => rfl); (case hr => first | (go_simp; done) | (go_simp; rfl)); intro gb175 hg w45 hbox hb; have n0_ := Aside0.mk (blk_below (g := gb172) (o := .cells #[.int .i64 a0_0, .string a0_1, .slice A0_2 l0_2.length c0_2, .slice (some ad174) l0_3.length c0_3] 25 (0, 0)) (by (with_reducible repeat (first | refine blk_drewN ?_ _ | refine blk_drew ?_ | refine blk_alloc ?_ _)); exact BK172.out) hb); have n1_ := Aside0.mk (blk_below (g := gb173) (o := .cells #[.int .i64 a1_0, .string a1_1, .slice A1_2 l1_2.length c1_2, .slice A1_3 l1_3.length c1_3] 25 (0, 0)) (by (with_reducible repeat (first | refine blk_drewN ?_ _ | refine blk_drew ?_ | refine blk_alloc ?_ _)); exact BK173.out) hb); have n2_ := Aside0.mk (below_step (by repeat (first | (with_reducible first | exact HB.out | apply below_alloc | apply pw_below_drewN | apply below_drew1 | refine below_set ?_ GE172.out | refine below_set ?_ GE173.out) | exact HB.out)) hb); have n3_ := Aside0.mk (hbox); have n4_ := Aside0.mk ((by rw [hg]; exact (below_size (by repeat (first | (with_reducible first | exact HB.out | apply below_alloc | apply pw_below_drewN | apply below_drew1 | refine below_set ?_ GE172.out | refine below_set ?_ GE173.out) | exact HB.out))) : w.heap.size ≤ gb175)); have n5_ := Aside0.mk ((by rw [hg]; exact (below_size (by repeat (first | (with_reducible first | exact HB.out | apply below_alloc | apply pw_below_drewN | apply below_drew1 | refine below_set ?_ GE172.out | refine below_set ?_ GE173.out) | exact HB.out))) : w.heap.size ≤ gb175)); have n6_ := Aside0.mk ((by rw [hg]; exact Nat.ne_of_lt (blk_lt (g := gb172) (o := .cells #[.int .i64 a0_0, .string a0_1, .slice A0_2 l0_2.length c0_2, .slice (some ad174) l0_3.length c0_3] 25 (0, 0)) (by (with_reducible repeat (first | refine blk_drewN ?_ _ | refine blk_drew ?_ | refine blk_alloc ?_ _)); exact BK172.out)) : gb172 ≠ gb175)); have n7_ := Aside0.mk ((by rw [hg]; exact Nat.ne_of_gt (blk_lt (g := gb172) (o := .cells #[.int .i64 a0_0, .string a0_1, .slice A0_2 l0_2.length c0_2, .slice (some ad174) l0_3.length c0_3] 25 (0, 0)) (by (with_reducible repeat (first | refine blk_drewN ?_ _ | refine blk_drew ?_ | refine blk_alloc ?_ _)); exact BK172.out)) : gb175 ≠ gb172)); have n8_ := Aside0.mk ((by rw [hg]; exact Nat.ne_of_lt (blk_lt (g := gb173) (o := .cells #[.int .i64 a1_0, .string a1_1, .slice A1_2 l1_2.length c1_2, .slice A1_3 l1_3.length c1_3] 25 (0, 0)) (by (with_reducible repeat (first | refine blk_drewN ?_ _ | refine blk_drew ?_ | refine blk_alloc ?_ _)); exact BK173.out)) : gb173 ≠ gb175)); have n9_ := Aside0.mk ((by rw [hg]; exact Nat.ne_of_gt (blk_lt (g := gb173) (o := .cells #[.int .i64 a1_0, .string a1_1, .slice A1_2 l1_2.length c1_2, .slice A1_3 l1_3.length c1_3] 25 (0, 0)) (by (with_reducible repeat (first | refine blk_drewN ?_ _ | refine blk_drew ?_ | refine blk_alloc ?_ _)); exact BK173.out)) : gb175 ≠ gb173)); clear BK172; clear BK173; clear HB; have BK172 := n0_; have BK173 := n1_; have HB := n2_; have BK175 := n3_; have GW175 := n4_; have GE175 := n5_; have NB172_175 := n6_; have NB175_172 := n7_; have NB173_175 := n8_; have NB175_173 := n9_; clear n0_ n1_ n2_ n3_ n4_ n5_ n6_ n7_ n8_ n9_; clear hb hbox hg; have hnb46 := NB175_172.out; have hnc46 := NB172_175.out; have hnb47 := NB175_173.out; have hnc47 := NB173_175.out; have hcz48_0 : w45.cell? ⟨gb175, 0, none⟩ = some (.int .i64 0) := (blk_cell BK175.out 0).trans rfl; have hcz48_1 : w45.cell? ⟨gb175, 1, none⟩ = some (.string (⟨#[]⟩ : ByteArray)) := (blk_cell BK175.out 1).trans rfl; have hcz48_2 : w45.cell? ⟨gb175, 2, none⟩ = some (.slice none 0 0) := (blk_cell BK175.out 2).trans rfl; have hcz48_3 : w45.cell? ⟨gb175, 3, none⟩ = some (.slice none 0 0) := (blk_cell BK175.out 3).trans rfl; have hfz48_0 := blk_frozen BK175.out 0; have hfz48_1 := blk_frozen BK175.out 1; have hfz48_2 := blk_frozen BK175.out 2; have hfz48_3 := blk_frozen BK175.out 3; have hnb49 := NB172_173.out; have hnc49 := NB173_172.out; have hcz50_0 : w45.cell? ⟨gb172, 0, none⟩ = some (.int .i64 a0_0) := (blk_cell BK172.out 0).trans rfl; have hcz50_1 : w45.cell? ⟨gb172, 1, none⟩ = some (.string a0_1) := (blk_cell BK172.out 1).trans rfl; have hcz50_2 : w45.cell? ⟨gb172, 2, none⟩ = some (.slice A0_2 l0_2.length c0_2) := (blk_cell BK172.out 2).trans rfl; have hcz50_3 : w45.cell? ⟨gb172, 3, none⟩ = some (.slice (some ad174) l0_3.length c0_3) := (blk_cell BK172.out 3).trans rfl; have hfz50_0 := blk_frozen BK172.out 0; have hfz50_1 := blk_frozen BK172.out 1; have hfz50_2 := blk_frozen BK172.out 2; have hfz50_3 := blk_frozen BK172.out 3))
               have n0_ : Aside0 (((((w45.setCell ⟨gb175, 0, none⟩ (.int .i64 ((rd_T25 l0_3 x41_2).f0))).setCell ⟨gb175, 1, none⟩ (.string ((rd_T25 l0_3 x41_2).f1))).setCell ⟨gb175, 2, none⟩ (.slice A174_2 ((rd_T25 l0_3 x41_2).f2).length c174_2)).setCell ⟨gb175, 3, none⟩ (.slice A174_3 ((rd_T25 l0_3 x41_2).f3).length c174_3)).heap[gb172]? = some (.cells #[.int .i64 a0_0, .string a0_1, .slice A0_2 l0_2.length c0_2, .slice (some ad174) l0_3.length c0_3] 25 (0, 0))) := ⟨by (with_reducible repeat (first | refine blk_drewN ?_ _ | refine blk_drew ?_ | refine blk_alloc ?_ _)); refine blk_far ?_ NB172_175.out _; (with_reducible repeat (first | refine blk_drewN ?_ _ | refine blk_drew ?_ | refine blk_alloc ?_ _)); refine blk_far ?_ NB172_175.out _; (with_reducible repeat (first | refine blk_drewN ?_ _ | refine blk_drew ?_ | refine blk_alloc ?_ _)); refine blk_far ?_ NB172_175.out _; (with_reducible repeat (first | refine blk_drewN ?_ _ | refine blk_drew ?_ | refine blk_alloc ?_ _)); refine blk_far ?_ NB172_175.out _; (with_reducible repeat (first | refine blk_drewN ?_ _ | refine blk_drew ?_ | refine blk_alloc ?_ _)); exact BK172.out⟩
               have n1_ : Aside0 (((((w45.setCell ⟨gb175, 0, none⟩ (.int .i64 ((rd_T25 l0_3 x41_2).f0))).setCell ⟨gb175, 1, none⟩ (.string ((rd_T25 l0_3 x41_2).f1))).setCell ⟨gb175, 2, none⟩ (.slice A174_2 ((rd_T25 l0_3 x41_2).f2).length c174_2)).setCell ⟨gb175, 3, none⟩ (.slice A174_3 ((rd_T25 l0_3 x41_2).f3).length c174_3)).heap[gb173]? = some (.cells #[.int .i64 a1_0, .string a1_1, .slice A1_2 l1_2.length c1_2, .slice A1_3 l1_3.length c1_3] 25 (0, 0))) := ⟨by (with_reducible repeat (first | refine blk_drewN ?_ _ | refine blk_drew ?_ | refine blk_alloc ?_ _)); refine blk_far ?_ NB173_175.out _; (with_reducible repeat (first | refine blk_drewN ?_ _ | refine blk_drew ?_ | refine blk_alloc ?_ _)); refine blk_far ?_ NB173_175.out _; (with_reducible repeat (first | refine blk_drewN ?_ _ | refine blk_drew ?_ | refine blk_alloc ?_ _)); refine blk_far ?_ NB173_175.out _; (with_reducible repeat (first | refine blk_drewN ?_ _ | refine blk_drew ?_ | refine blk_alloc ?_ _)); refine blk_far ?_ NB173_175.out _; (with_reducible repeat (first | refine blk_drewN ?_ _ | refine blk_drew ?_ | refine blk_alloc ?_ _)); exact BK173.out⟩
               have n2_ : Aside0 (((((w45.setCell ⟨gb175, 0, none⟩ (.int .i64 ((rd_T25 l0_3 x41_2).f0))).setCell ⟨gb175, 1, none⟩ (.string ((rd_T25 l0_3 x41_2).f1))).setCell ⟨gb175, 2, none⟩ (.slice A174_2 ((rd_T25 l0_3 x41_2).f2).length c174_2)).setCell ⟨gb175, 3, none⟩ (.slice A174_3 ((rd_T25 l0_3 x41_2).f3).length c174_3)).heap[gb175]? = some (.cells #[.int .i64 ((rd_T25 l0_3 x41_2).f0), .string ((rd_T25 l0_3 x41_2).f1), .slice A174_2 ((rd_T25 l0_3 x41_2).f2).length c174_2, .slice A174_3 ((rd_T25 l0_3 x41_2).f3).length c174_3] 25 (0, 0))) := ⟨by (with_reducible repeat (first | refine blk_drewN ?_ _ | refine blk_drew ?_ | refine blk_alloc ?_ _)); refine blk_put (cs := #[.int .i64 ((rd_T25 l0_3 x41_2).f0), .string ((rd_T25 l0_3 x41_2).f1), .slice A174_2 ((rd_T25 l0_3 x41_2).f2).length c174_2, .slice none 0 0]) ?_ 3 _ rfl; (with_reducible repeat (first | refine blk_drewN ?_ _ | refine blk_drew ?_ | refine blk_alloc ?_ _)); refine blk_put (cs := #[.int .i64 ((rd_T25 l0_3 x41_2).f0), .string ((rd_T25 l0_3 x41_2).f1), .slice none 0 0, .slice none 0 0]) ?_ 2 _ rfl; (with_reducible repeat (first | refine blk_drewN ?_ _ | refine blk_drew ?_ | refine blk_alloc ?_ _)); refine blk_put (cs := #[.int .i64 ((rd_T25 l0_3 x41_2).f0), .string (⟨#[]⟩ : ByteArray), .slice none 0 0, .slice none 0 0]) ?_ 1 _ rfl; (with_reducible repeat (first | refine blk_drewN ?_ _ | refine blk_drew ?_ | refine blk_alloc ?_ _)); refine blk_put (cs := #[.int .i64 0, .string (⟨#[]⟩ : ByteArray), .slice none 0 0, .slice none 0 0]) ?_ 0 _ rfl; (with_reducible repeat (first | refine blk_drewN ?_ _ | refine blk_drew ?_ | refine blk_alloc ?_ _)); exact BK175.out⟩
               have n3_ : Aside0 (Below w.heap.size w ((((w45.setCell ⟨gb175, 0, none⟩ (.int .i64 ((rd_T25 l0_3 x41_2).f0))).setCell ⟨gb175, 1, none⟩ (.string ((rd_T25 l0_3 x41_2).f1))).setCell ⟨gb175, 2, none⟩ (.slice A174_2 ((rd_T25 l0_3 x41_2).f2).length c174_2)).setCell ⟨gb175, 3, none⟩ (.slice A174_3 ((rd_T25 l0_3 x41_2).f3).length c174_3))) := ⟨by repeat (first | (with_reducible first | exact HB.out | apply below_alloc | apply pw_below_drewN | apply below_drew1 | refine below_set ?_ GE172.out | refine below_set ?_ GE173.out | refine below_set ?_ GE175.out) | exact HB.out)⟩
               (try clear BK172)
               (try clear BK173)
               (try clear BK175)
               (try clear HB)
               generalize ((((w45.setCell ⟨gb175, 0, none⟩ (.int .i64 ((rd_T25 l0_3 x41_2).f0))).setCell ⟨gb175, 1, none⟩ (.string ((rd_T25 l0_3 x41_2).f1))).setCell ⟨gb175, 2, none⟩ (.slice A174_2 ((rd_T25 l0_3 x41_2).f2).length c174_2)).setCell ⟨gb175, 3, none⟩ (.slice A174_3 ((rd_T25 l0_3 x41_2).f3).length c174_3)) = w51 at n0_ n1_ n2_ n3_ ⊢
               have BK172 := n0_
               have BK173 := n1_
               have BK175 := n2_
               have HB := n3_
               clear n0_ n1_ n2_ n3_
               have n0_ := Aside0.mk (blk_drew BK172.out)
               have n1_ := Aside0.mk (blk_drew BK173.out)
               have n2_ := Aside0.mk (blk_drew BK175.out)
               have n3_ := Aside0.mk (below_drew1 HB.out)
               clear BK172
               clear BK173
               clear BK175
               clear HB
               have BK172 := n0_
               have BK173 := n1_
               have BK175 := n2_
               have HB := n3_
               clear n0_ n1_ n2_ n3_
               have p176 : 0 ≤ (x41_2 : Int) := of_decide_eq_true (by first | (with_reducible assumption) | assumption)
               have q176 : x41_2 < (l0_2.length : Int) := of_decide_eq_true (by first | (with_reducible assumption) | assumption)
               obtain ⟨ad176, e176, hx176_0⟩ := Kd.at_string HR0_2.out x41_2 p176 q176
               have hw176_0 := hx176_0
               cases e176
               replace hx176_0 := (HB.out.cell (World.block_lt_of_cell? w _ hx176_0)).trans hx176_0
               replace p176 := eq_true p176
               replace q176 := eq_true q176
               refine start_ (n := 8) (S := fun w' => w'.cell? ⟨gb173, 0, none⟩ = some (.int .i64 a1_0) ∧ w'.cell? ⟨gb173, 1, none⟩ = some (.string a1_1) ∧ w'.cell? ⟨gb173, 2, none⟩ = some (.slice A1_2 l1_2.length c1_2) ∧ w'.cell? ⟨gb173, 3, none⟩ = some (.slice A1_3 l1_3.length c1_3) ∧ w'.cell? ⟨gb172, 0, none⟩ = some (.int .i64 a0_0) ∧ w'.cell? ⟨gb172, 1, none⟩ = some (.string a0_1) ∧ w'.cell? ⟨gb172, 2, none⟩ = some (.slice (some ad176) l0_2.length c0_2) ∧ w'.cell? ⟨gb172, 3, none⟩ = some (.slice (some ad174) l0_3.length c0_3) ∧ w'.cell? (ad176.add (x41_2).toNat) = some (.string (rdOf ByteArray.empty l0_2 x41_2))) (ds := []) #[false, false, false, false, false, false, false, false] (by kernel_rfl) rfl rfl ⟨(blk_cell BK173.out 0).trans rfl, (blk_cell BK173.out 1).trans rfl, (blk_cell BK173.out 2).trans rfl, (blk_cell BK173.out 3).trans rfl, (blk_cell BK172.out 0).trans rfl, (blk_cell BK172.out 1).trans rfl, (blk_cell BK172.out 2).trans rfl, (blk_cell BK172.out 3).trans rfl, ((HB.out.cell (World.block_lt_of_cell? w _ hw176_0)).trans hw176_0)⟩ (fun hHeld => ?_); refine with_tabW spec_Alike.tab8 spec_Alike.bits8 (fun HT_ HW_ => ?_)
               generalize w51.drew = w52 at BK172 BK173 BK175 HB hx176_0 hHeld ⊢
               refine pure_ (i := 1) (N := some 51) (v := ?_) (a' := ?_) #[false, true, false, false, false, false, false, false] rfl rfl (any_of HT_.out (by kernel_rfl)) (fun _ _ _ h => h) (Or.inl ⟨by rfl, ?_⟩) ?_ ?_
               rotate_left
               ·
                intro w'
                go_simp
                with_reducible rfl
               rotate_left
               ·
                simp only [Act.put, List.setIfInBounds_toArray, List.set_cons_zero, List.set_cons_succ, i64_w, i32_w]
                rfl
               refine pure_ (i := 3) (N := some 53) (v := ?_) (a' := ?_) #[false, true, false, true, false, false, false, false] rfl rfl (any_of HT_.out (by kernel_rfl)) (fun _ _ _ h => h) (Or.inl ⟨by rfl, ?_⟩) ?_ ?_
               rotate_left
               ·
                intro w'
                go_simp
                with_reducible rfl
               rotate_left
               ·
                simp only [Act.put, List.setIfInBounds_toArray, List.set_cons_zero, List.set_cons_succ, i64_w, i32_w]
                rfl
               refine take_ (i := 0) (N := some 50) (v := ?_) (a' := ?_) #[true, true, false, true, false, false, false, false] rfl rfl (take_ofW HT_.out HW_.out (by kernel_rfl)) (fun _ _ _ h => h) (Or.inl ⟨by rfl, ?_⟩) hHeld ?_ ?_
               rotate_left
               ·
                rintro w' ⟨s0, s1, s2, s3, s4, s5, s6, s7, s8⟩
                go_simp
                with_reducible rfl
               rotate_left
               ·
                simp only [Act.put, List.setIfInBounds_toArray, List.set_cons_zero, List.set_cons_succ, i64_w, i32_w]
                rfl
               refine take_ (i := 2) (N := some 52) (v := ?_) (a' := ?_) #[true, true, true, true, false, false, false, false] rfl rfl (take_ofW HT_.out HW_.out (by kernel_rfl)) (fun _ _ _ h => h) (Or.inl ⟨by rfl, ?_⟩) hHeld ?_ ?_
               rotate_left
               ·
                rintro w' ⟨s0, s1, s2, s3, s4, s5, s6, s7, s8⟩
                go_simp
                with_reducible rfl
               rotate_left
               ·
                simp only [Act.put, List.setIfInBounds_toArray, List.set_cons_zero, List.set_cons_succ, i64_w, i32_w]
                rfl
               refine pure_ (i := 4) (N := some 54) (v := ?_) (a' := ?_) #[true, true, true, true, true, false, false, false] rfl rfl (any_of HT_.out (by kernel_rfl)) (fun _ _ _ h => h) (Or.inl ⟨by rfl, ?_⟩) ?_ ?_
               rotate_left
               ·
                intro w'
                go_simp
                with_reducible rfl
               rotate_left
               ·
                simp only [Act.put, List.setIfInBounds_toArray, List.set_cons_zero, List.set_cons_succ, i64_w, i32_w]
                rfl
               refine take_ (i := 5) (N := some 55) (v := ?_) (a' := ?_) #[true, true, true, true, true, true, false, false] rfl rfl (take_ofW HT_.out HW_.out (by kernel_rfl)) (fun _ _ _ h => h) (Or.inl ⟨by rfl, ?_⟩) hHeld ?_ ?_
               rotate_left
               ·
                rintro w' ⟨s0, s1, s2, s3, s4, s5, s6, s7, s8⟩
                go_simp
                with_reducible rfl
               rotate_left
               ·
                simp only [Act.put, List.setIfInBounds_toArray, List.set_cons_zero, List.set_cons_succ, i64_w, i32_w]
                rfl
               refine one_ (i := 6) (N := some 56) #[true, true, true, true, true, true, true, false] rfl rfl (one_of HT_.out (by kernel_rfl)) (by decide) (fun K hK => ?_)
               refine goes_ Tryd.func12 (by kernel_rfl) rfl #[.agg #[.int .i64 a1_0, .string a1_1, .slice A1_2 l1_2.length c1_2, .slice A1_3 l1_3.length c1_3], .string (rdOf ByteArray.empty l0_2 x41_2)] (by rfl) rfl rfl (by (try simp only [List.map_toArray, List.map_cons, List.map_nil]); first | done | rfl | (simp only [List.length_drop, List.length_take]; rfl)) ?_
               with_reducible refine (spec_Member.calls k2 a1_0 a1_1 _ _ l1_2 _ _ l1_3 (rdOf ByteArray.empty l0_2 x41_2) t177 _ ?side1 ?side2 ?side3 ?side4 A29.out).mono ?_
               (case side1 => repeat (first | exact (Kd.C_below HR1_2.out HB.out) | (with_reducible refine Kd.C_alloc ?_ _) | (with_reducible refine Kd.C_drewN ?_ _) | (with_reducible refine Kd.C_drew ?_)))
               (case side2 => exact HC1_2.out)
               (case side3 => repeat (first | exact (Kd.C_below HR1_3.out HB.out) | (with_reducible refine Kd.C_alloc ?_ _) | (with_reducible refine Kd.C_drewN ?_ _) | (with_reducible refine Kd.C_drew ?_)))
               (case side4 => exact HC1_3.out)
               rintro e w53 ⟨rfl, hb⟩
               refine ⟨_, rfl, ?_⟩
               have n0_ := Aside0.mk (blk_below (g := gb172) (o := .cells #[.int .i64 a0_0, .string a0_1, .slice (some ad176) l0_2.length c0_2, .slice (some ad174) l0_3.length c0_3] 25 (0, 0)) (by (with_reducible repeat (first | refine blk_drewN ?_ _ | refine blk_drew ?_ | refine blk_alloc ?_ _)); exact BK172.out) hb)
               have n1_ := Aside0.mk (blk_below (g := gb173) (o := .cells #[.int .i64 a1_0, .string a1_1, .slice A1_2 l1_2.length c1_2, .slice A1_3 l1_3.length c1_3] 25 (0, 0)) (by (with_reducible repeat (first | refine blk_drewN ?_ _ | refine blk_drew ?_ | refine blk_alloc ?_ _)); exact BK173.out) hb)
               have n2_ := Aside0.mk (blk_below (g := gb175) (o := .cells #[.int .i64 ((rd_T25 l0_3 x41_2).f0), .string ((rd_T25 l0_3 x41_2).f1), .slice A174_2 ((rd_T25 l0_3 x41_2).f2).length c174_2, .slice A174_3 ((rd_T25 l0_3 x41_2).f3).length c174_3] 25 (0, 0)) (by (with_reducible repeat (first | refine blk_drewN ?_ _ | refine blk_drew ?_ | refine blk_alloc ?_ _)); exact BK175.out) hb)
               have n3_ := Aside0.mk (below_step (by repeat (first | (with_reducible first | exact HB.out | apply below_alloc | apply pw_below_drewN | apply below_drew1 | refine below_set ?_ GE172.out | refine below_set ?_ GE173.out | refine below_set ?_ GE175.out) | exact HB.out)) hb)
               clear BK172
               clear BK173
               clear BK175
               clear HB
               have BK172 := n0_
               have BK173 := n1_
               have BK175 := n2_
               have HB := n3_
               clear n0_ n1_ n2_ n3_
               (try clear hb)
               (try clear hb2)
               (try clear hk)
               (try clear hi)
               refine hK.out _ _ ⟨(blk_cell BK173.out 0).trans rfl, (blk_cell BK173.out 1).trans rfl, (blk_cell BK173.out 2).trans rfl, (blk_cell BK173.out 3).trans rfl, (blk_cell BK172.out 0).trans rfl, (blk_cell BK172.out 1).trans rfl, (blk_cell BK172.out 2).trans rfl, (blk_cell BK172.out 3).trans rfl, ((HB.out.cell (World.block_lt_of_cell? w _ hw176_0)).trans hw176_0)⟩ (fun hHeld => ?_)
               clear hK K
               refine norm_ (a' := ?_) ?_ ?_
               rotate_left
               ·
                show Act.put _ (some 56) _ = _
                simp only [Act.put, List.setIfInBounds_toArray, List.set_cons_zero, List.set_cons_succ, i64_w, i32_w]
                rfl
               refine pure_ (i := 7) (N := some 7) (v := ?_) (a' := ?_) #[true, true, true, true, true, true, true, true] rfl rfl (any_of HT_.out (by kernel_rfl)) (fun _ _ _ h => h) (Or.inl ⟨by rfl, ?_⟩) ?_ ?_
               rotate_left
               ·
                intro w'
                go_simp
                with_reducible rfl
               rotate_left
               ·
                simp only [Act.put, List.setIfInBounds_toArray, List.set_cons_zero, List.set_cons_succ, i64_w, i32_w]
                rfl
               refine done_ (done_of HT_.out (by kernel_rfl)) ?_
               try go_wp2
               have n0_ := Aside0.mk (blk_drew BK172.out)
               have n1_ := Aside0.mk (blk_drew BK173.out)
               have n2_ := Aside0.mk (blk_drew BK175.out)
               have n3_ := Aside0.mk (below_drew1 HB.out)
               clear BK172
               clear BK173
               clear BK175
               clear HB
               have BK172 := n0_
               have BK173 := n1_
               have BK175 := n2_
               have HB := n3_
               clear n0_ n1_ n2_ n3_
               have p178 : 0 ≤ (t177 : Int) := of_decide_eq_true (by first | (with_reducible assumption) | assumption)
               have q178 : t177 < (l1_3.length : Int) := of_decide_eq_true (by first | (with_reducible assumption) | assumption)
               obtain ⟨ad178, A178_2, c178_2, A178_3, c178_3, e178, hx178_0, hx178_1, hx178_2, hx178_3, hl178_2, hi178_2, hl178_3, hi178_3⟩ := at_T25 HR1_3.out t177 p178 q178
               have hw178_3 := hx178_3
               have hw178_2 := hx178_2
               have hw178_1 := hx178_1
               have hw178_0 := hx178_0
               cases e178
               replace hx178_0 := (HB.out.cell (World.block_lt_of_cell? w _ hx178_0)).trans hx178_0
               replace hx178_1 := (HB.out.cell (World.block_lt_of_cell? w _ hx178_1)).trans hx178_1
               replace hx178_2 := (HB.out.cell (World.block_lt_of_cell? w _ hx178_2)).trans hx178_2
               replace hx178_3 := (HB.out.cell (World.block_lt_of_cell? w _ hx178_3)).trans hx178_3
               have HR178_2 := Aside0.mk hi178_2
               have HC178_2 := Aside0.mk hl178_2
               clear hi178_2 hl178_2
               have HR178_3 := Aside0.mk hi178_3
               have HC178_3 := Aside0.mk hl178_3
               clear hi178_3 hl178_3
               replace p178 := eq_true p178
               replace q178 := eq_true q178
               refine start_ (n := 12) (S := fun w' => w'.cell? ⟨gb175, 0, none⟩ = some (.int .i64 ((rd_T25 l0_3 x41_2).f0)) ∧ w'.cell? ⟨gb175, 1, none⟩ = some (.string ((rd_T25 l0_3 x41_2).f1)) ∧ w'.cell? ⟨gb175, 2, none⟩ = some (.slice A174_2 ((rd_T25 l0_3 x41_2).f2).length c174_2) ∧ w'.cell? ⟨gb175, 3, none⟩ = some (.slice A174_3 ((rd_T25 l0_3 x41_2).f3).length c174_3) ∧ w'.cell? ⟨gb173, 0, none⟩ = some (.int .i64 a1_0) ∧ w'.cell? ⟨gb173, 1, none⟩ = some (.string a1_1) ∧ w'.cell? ⟨gb173, 2, none⟩ = some (.slice A1_2 l1_2.length c1_2) ∧ w'.cell? ⟨gb173, 3, none⟩ = some (.slice (some ad178) l1_3.length c1_3) ∧ w'.cell? (ad178.add ((t177).toNat * 4)) = some (.int .i64 ((rd_T25 l1_3 t177).f0)) ∧ w'.cell? ⟨(ad178.add ((t177).toNat * 4)).block, (ad178.add ((t177).toNat * 4)).off + 1, none⟩ = some (.string ((rd_T25 l1_3 t177).f1)) ∧ w'.cell? ⟨(ad178.add ((t177).toNat * 4)).block, (ad178.add ((t177).toNat * 4)).off + 2, none⟩ = some (.slice A178_2 ((rd_T25 l1_3 t177).f2).length c178_2) ∧ w'.cell? ⟨(ad178.add ((t177).toNat * 4)).block, (ad178.add ((t177).toNat * 4)).off + 3, none⟩ = some (.slice A178_3 ((rd_T25 l1_3 t177).f3).length c178_3)) (ds := []) #[false, false, false, false, false, false, false, false, false, false, false, false] (by kernel_rfl) rfl rfl ⟨(blk_cell BK175.out 0).trans rfl, (blk_cell BK175.out 1).trans rfl, (blk_cell BK175.out 2).trans rfl, (blk_cell BK175.out 3).trans rfl, (blk_cell BK173.out 0).trans rfl, (blk_cell BK173.out 1).trans rfl, (blk_cell BK173.out 2).trans rfl, (blk_cell BK173.out 3).trans rfl, ((HB.out.cell (World.block_lt_of_cell? w _ hw178_0)).trans hw178_0), ((HB.out.cell (World.block_lt_of_cell? w _ hw178_1)).trans hw178_1), ((HB.out.cell (World.block_lt_of_cell? w _ hw178_2)).trans hw178_2), ((HB.out.cell (World.block_lt_of_cell? w _ hw178_3)).trans hw178_3)⟩ (fun hHeld => ?_); refine with_tabW spec_Alike.tab9 spec_Alike.bits9 (fun HT_ HW_ => ?_)
               generalize w53.drew = w54 at BK172 BK173 BK175 HB HR178_2 HR178_3 hx178_0 hx178_1 hx178_2 hx178_3 hHeld ⊢
               refine pure_ (i := 0) (N := some 57) (v := ?_) (a' := ?_) #[true, false, false, false, false, false, false, false, false, false, false, false] rfl rfl (any_of HT_.out (by kernel_rfl)) (fun _ _ _ h => h) (Or.inl ⟨by rfl, ?_⟩) ?_ ?_
               rotate_left
               ·
                intro w'
                go_simp
                with_reducible rfl
               rotate_left
               ·
                simp only [Act.put, List.setIfInBounds_toArray, List.set_cons_zero, List.set_cons_succ, i64_w, i32_w]
                rfl
               refine pure_ (i := 1) (N := some 58) (v := ?_) (a' := ?_) #[true, true, false, false, false, false, false, false, false, false, false, false] rfl rfl (any_of HT_.out (by kernel_rfl)) (fun _ _ _ h => h) (Or.inl ⟨by rfl, ?_⟩) ?_ ?_
               rotate_left
               ·
                intro w'
                go_simp
                with_reducible rfl
               rotate_left
               ·
                simp only [Act.put, List.setIfInBounds_toArray, List.set_cons_zero, List.set_cons_succ, i64_w, i32_w]
                rfl
               refine pure_ (i := 2) (N := some 59) (v := ?_) (a' := ?_) #[true, true, true, false, false, false, false, false, false, false, false, false] rfl rfl (any_of HT_.out (by kernel_rfl)) (fun _ _ _ h => h) (Or.inl ⟨by rfl, ?_⟩) ?_ ?_
               rotate_left
               ·
                intro w'
                go_simp
                with_reducible rfl
               rotate_left
               ·
                simp only [Act.put, List.setIfInBounds_toArray, List.set_cons_zero, List.set_cons_succ, i64_w, i32_w]
                rfl
               refine pure_ (i := 4) (N := some 61) (v := ?_) (a' := ?_) #[true, true, true, false, true, false, false, false, false, false, false, false] rfl rfl (any_of HT_.out (by kernel_rfl)) (fun _ _ _ h => h) (Or.inl ⟨by rfl, ?_⟩) ?_ ?_
               rotate_left
               ·
                intro w'
                go_simp
                with_reducible rfl
               rotate_left
               ·
                simp only [Act.put, List.setIfInBounds_toArray, List.set_cons_zero, List.set_cons_succ, i64_w, i32_w]
                rfl
               refine pure_ (i := 6) (N := some 63) (v := ?_) (a' := ?_) #[true, true, true, false, true, false, true, false, false, false, false, false] rfl rfl (any_of HT_.out (by kernel_rfl)) (fun _ _ _ h => h) (Or.inl ⟨by rfl, ?_⟩) ?_ ?_
               rotate_left
               ·
                intro w'
                go_simp
                with_reducible rfl
               rotate_left
               ·
                simp only [Act.put, List.setIfInBounds_toArray, List.set_cons_zero, List.set_cons_succ, i64_w, i32_w]
                rfl
               refine take_ (i := 3) (N := some 60) (v := ?_) (a' := ?_) #[true, true, true, true, true, false, true, false, false, false, false, false] rfl rfl (take_ofW HT_.out HW_.out (by kernel_rfl)) (fun _ _ _ h => h) (Or.inl ⟨by rfl, ?_⟩) hHeld ?_ ?_
               rotate_left
               ·
                rintro w' ⟨s0, s1, s2, s3, s4, s5, s6, s7, s8, s9, s10, s11⟩
                go_simp
                with_reducible rfl
               rotate_left
               ·
                simp only [Act.put, List.setIfInBounds_toArray, List.set_cons_zero, List.set_cons_succ, i64_w, i32_w]
                rfl
               refine take_ (i := 5) (N := some 62) (v := ?_) (a' := ?_) #[true, true, true, true, true, true, true, false, false, false, false, false] rfl rfl (take_ofW HT_.out HW_.out (by kernel_rfl)) (fun _ _ _ h => h) (Or.inl ⟨by rfl, ?_⟩) hHeld ?_ ?_
               rotate_left
               ·
                rintro w' ⟨s0, s1, s2, s3, s4, s5, s6, s7, s8, s9, s10, s11⟩
                go_simp
                with_reducible rfl
               rotate_left
               ·
                simp only [Act.put, List.setIfInBounds_toArray, List.set_cons_zero, List.set_cons_succ, i64_w, i32_w]
                rfl
               refine pure_ (i := 7) (N := some 64) (v := ?_) (a' := ?_) #[true, true, true, true, true, true, true, true, false, false, false, false] rfl rfl (any_of HT_.out (by kernel_rfl)) (fun _ _ _ h => h) (Or.inl ⟨by rfl, ?_⟩) ?_ ?_
               rotate_left
               ·
                intro w'
                go_simp
                with_reducible rfl
               rotate_left
               ·
                simp only [Act.put, List.setIfInBounds_toArray, List.set_cons_zero, List.set_cons_succ, i64_w, i32_w]
                rfl
               refine take_ (i := 8) (N := some 65) (v := ?_) (a' := ?_) #[true, true, true, true, true, true, true, true, true, false, false, false] rfl rfl (take_ofW HT_.out HW_.out (by kernel_rfl)) (fun _ _ _ h => h) (Or.inl ⟨by rfl, ?_⟩) hHeld ?_ ?_
               rotate_left
               ·
                rintro w' ⟨s0, s1, s2, s3, s4, s5, s6, s7, s8, s9, s10, s11⟩
                go_simp
                with_reducible rfl
               rotate_left
               ·
                simp only [Act.put, List.setIfInBounds_toArray, List.set_cons_zero, List.set_cons_succ, i64_w, i32_w]
                rfl
               refine one_ (i := 9) (N := some 66) #[true, true, true, true, true, true, true, true, true, true, false, false] rfl rfl (one_of HT_.out (by kernel_rfl)) (by decide) (fun K hK => ?_)
               refine goes_ Tryd.func8 (by kernel_rfl) rfl #[.agg #[.int .i64 ((rd_T25 l0_3 x41_2).f0), .string ((rd_T25 l0_3 x41_2).f1), .slice A174_2 ((rd_T25 l0_3 x41_2).f2).length c174_2, .slice A174_3 ((rd_T25 l0_3 x41_2).f3).length c174_3], .agg #[.int .i64 ((rd_T25 l1_3 t177).f0), .string ((rd_T25 l1_3 t177).f1), .slice A178_2 ((rd_T25 l1_3 t177).f2).length c178_2, .slice A178_3 ((rd_T25 l1_3 t177).f3).length c178_3]] (by rfl) rfl rfl (by (try simp only [List.map_toArray, List.map_cons, List.map_nil]); first | done | rfl | (simp only [List.length_drop, List.length_take]; rfl)) ?_
               with_reducible refine (ih k2 (by have := HJ2.out; have := HK2.out; omega) ((rd_T25 l0_3 x41_2).f0) ((rd_T25 l0_3 x41_2).f1) _ _ ((rd_T25 l0_3 x41_2).f2) _ _ ((rd_T25 l0_3 x41_2).f3) ((rd_T25 l1_3 t177).f0) ((rd_T25 l1_3 t177).f1) _ _ ((rd_T25 l1_3 t177).f2) _ _ ((rd_T25 l1_3 t177).f3) true _ ?side1 ?side2 ?side3 ?side4 ?side5 ?side6 ?side7 ?side8 A43.out).mono ?_
               (case side1 => repeat (first | exact (Kd.C_below HR174_2.out HB.out) | (with_reducible refine Kd.C_alloc ?_ _) | (with_reducible refine Kd.C_drewN ?_ _) | (with_reducible refine Kd.C_drew ?_)))
               (case side2 => exact HC174_2.out)
               (case side3 => repeat (first | exact (Kd.C_below HR174_3.out HB.out) | (with_reducible refine Kd.C_alloc ?_ _) | (with_reducible refine Kd.C_drewN ?_ _) | (with_reducible refine Kd.C_drew ?_)))
               (case side4 => exact HC174_3.out)
               (case side5 => repeat (first | exact (Kd.C_below HR178_2.out HB.out) | (with_reducible refine Kd.C_alloc ?_ _) | (with_reducible refine Kd.C_drewN ?_ _) | (with_reducible refine Kd.C_drew ?_)))
               (case side6 => exact HC178_2.out)
               (case side7 => repeat (first | exact (Kd.C_below HR178_3.out HB.out) | (with_reducible refine Kd.C_alloc ?_ _) | (with_reducible refine Kd.C_drewN ?_ _) | (with_reducible refine Kd.C_drew ?_)))
               (case side8 => exact HC178_3.out)
               rintro e w55 ⟨rfl, hb⟩
               refine ⟨_, rfl, ?_⟩
               have n0_ := Aside0.mk (blk_below (g := gb172) (o := .cells #[.int .i64 a0_0, .string a0_1, .slice (some ad176) l0_2.length c0_2, .slice (some ad174) l0_3.length c0_3] 25 (0, 0)) (by (with_reducible repeat (first | refine blk_drewN ?_ _ | refine blk_drew ?_ | refine blk_alloc ?_ _)); exact BK172.out) hb)
               have n1_ := Aside0.mk (blk_below (g := gb173) (o := .cells #[.int .i64 a1_0, .string a1_1, .slice A1_2 l1_2.length c1_2, .slice (some ad178) l1_3.length c1_3] 25 (0, 0)) (by (with_reducible repeat (first | refine blk_drewN ?_ _ | refine blk_drew ?_ | refine blk_alloc ?_ _)); exact BK173.out) hb)
               have n2_ := Aside0.mk (blk_below (g := gb175) (o := .cells #[.int .i64 ((rd_T25 l0_3 x41_2).f0), .string ((rd_T25 l0_3 x41_2).f1), .slice A174_2 ((rd_T25 l0_3 x41_2).f2).length c174_2, .slice A174_3 ((rd_T25 l0_3 x41_2).f3).length c174_3] 25 (0, 0)) (by (with_reducible repeat (first | refine blk_drewN ?_ _ | refine blk_drew ?_ | refine blk_alloc ?_ _)); exact BK175.out) hb)
               have n3_ := Aside0.mk (below_step (by repeat (first | (with_reducible first | exact HB.out | apply below_alloc | apply pw_below_drewN | apply below_drew1 | refine below_set ?_ GE172.out | refine below_set ?_ GE173.out | refine below_set ?_ GE175.out) | exact HB.out)) hb)
               clear BK172
               clear BK173
               clear BK175
               clear HB
               have BK172 := n0_
               have BK173 := n1_
               have BK175 := n2_
               have HB := n3_
               clear n0_ n1_ n2_ n3_
               (try clear hb)
               (try clear hb2)
               (try clear hk)
               (try clear hi)
               refine hK.out _ _ ⟨(blk_cell BK175.out 0).trans rfl, (blk_cell BK175.out 1).trans rfl, (blk_cell BK175.out 2).trans rfl, (blk_cell BK175.out 3).trans rfl, (blk_cell BK173.out 0).trans rfl, (blk_cell BK173.out 1).trans rfl, (blk_cell BK173.out 2).trans rfl, (blk_cell BK173.out 3).trans rfl, ((HB.out.cell (World.block_lt_of_cell? w _ hw178_0)).trans hw178_0), ((HB.out.cell (World.block_lt_of_cell? w _ hw178_1)).trans hw178_1), ((HB.out.cell (World.block_lt_of_cell? w _ hw178_2)).trans hw178_2), ((HB.out.cell (World.block_lt_of_cell? w _ hw178_3)).trans hw178_3)⟩ (fun hHeld => ?_)
               clear hK K
               refine norm_ (a' := ?_) ?_ ?_
               rotate_left
               ·
                show Act.put _ (some 66) _ = _
                simp only [Act.put, List.setIfInBounds_toArray, List.set_cons_zero, List.set_cons_succ, i64_w, i32_w]
                rfl
               refine pure_ (i := 10) (N := some 67) (v := ?_) (a' := ?_) #[true, true, true, true, true, true, true, true, true, true, true, false] rfl rfl (any_of HT_.out (by kernel_rfl)) (fun _ _ _ h => h) (Or.inl ⟨by rfl, ?_⟩) ?_ ?_
               rotate_left
               ·
                intro w'
                go_simp
                with_reducible rfl
               rotate_left
               ·
                simp only [Act.put, List.setIfInBounds_toArray, List.set_cons_zero, List.set_cons_succ, i64_w, i32_w]
                rfl
               refine pure_ (i := 11) (N := some 68) (v := ?_) (a' := ?_) #[true, true, true, true, true, true, true, true, true, true, true, true] rfl rfl (any_of HT_.out (by kernel_rfl)) (fun _ _ _ h => h) (Or.inl ⟨by rfl, ?_⟩) ?_ ?_
               rotate_left
               ·
                intro w'
                go_simp
                with_reducible rfl
               rotate_left
               ·
                simp only [Act.put, List.setIfInBounds_toArray, List.set_cons_zero, List.set_cons_succ, i64_w, i32_w]
                rfl
               refine done_ (done_of HT_.out (by kernel_rfl)) ?_
               try go_wp2
               go_roundg k2
               case measure => have := HJ2.out; have := HK2.out; omega
               case rel => exact ⟨(wrap64 (x41_2 + 1)), (by first | rfl | (simp; done) | (simp [*]; done) | (simp; rw [Bool.eq_iff_iff]; simp; done)), H', ⟨by have := HJ2.out; have := HK2.out; omega⟩, ⟨by (with_reducible repeat (first | refine blk_drewN ?_ _ | refine blk_drew ?_ | refine blk_alloc ?_ _)); exact BK172.out⟩, ⟨by (with_reducible repeat (first | refine blk_drewN ?_ _ | refine blk_drew ?_ | refine blk_alloc ?_ _)); exact BK173.out⟩, ⟨by repeat (first | (with_reducible first | exact HB.out | apply below_alloc | apply pw_below_drewN | apply below_drew1 | refine below_set ?_ GE172.out | refine below_set ?_ GE173.out | refine below_set ?_ GE175.out) | exact HB.out)⟩⟩
              ·
               replace c44 := Bool.eq_false_iff.mpr c44
               subst c44
               have H1 : (some false) = some r := by rw [if_neg (show ¬ (false = true) by decide)] at H; exact H
               clear H
               have H := H1
               clear H1
               obtain rfl := Option.some.inj H
               have p174 : 0 ≤ (x41_2 : Int) := of_decide_eq_true (by first | (with_reducible assumption) | assumption)
               have q174 : x41_2 < (l0_3.length : Int) := of_decide_eq_true (by first | (with_reducible assumption) | assumption)
               obtain ⟨ad174, A174_2, c174_2, A174_3, c174_3, e174, hx174_0, hx174_1, hx174_2, hx174_3, hl174_2, hi174_2, hl174_3, hi174_3⟩ := at_T25 HR0_3.out x41_2 p174 q174
               cases e174
               replace hx174_0 := (HB.out.cell (World.block_lt_of_cell? w _ hx174_0)).trans hx174_0
               replace hx174_1 := (HB.out.cell (World.block_lt_of_cell? w _ hx174_1)).trans hx174_1
               replace hx174_2 := (HB.out.cell (World.block_lt_of_cell? w _ hx174_2)).trans hx174_2
               replace hx174_3 := (HB.out.cell (World.block_lt_of_cell? w _ hx174_3)).trans hx174_3
               have HR174_2 := Aside0.mk hi174_2
               have HC174_2 := Aside0.mk hl174_2
               clear hi174_2 hl174_2
               have HR174_3 := Aside0.mk hi174_3
               have HC174_3 := Aside0.mk hl174_3
               clear hi174_3 hl174_3
               replace p174 := eq_true p174
               replace q174 := eq_true q174
               try go_wp2_with (first | ((with_reducible refine gate_dst (N := 6) rfl ?_); (try (refine gate_guard (by rfl) ?_; dsimp only)); refine box_event ?hg (N := 6) ?hd (cs := #[.int .i64 0, .string (⟨#[]⟩ : ByteArray), .slice none 0 0, .slice none 0 0]) (t := 25) ?hr ?_; (case hd => rfl); (case hg => rfl); (case hr => first | (go_simp; done) | (go_simp; rfl)); intro gb175 hg w56 hbox hb; have n0_ := Aside0.mk (blk_below (g := gb172) (o := .cells #[.int .i64 a0_0, .string a0_1, .slice A0_2 l0_2.length c0_2, .slice (some ad174) l0_3.length c0_3] 25 (0, 0)) (by (with_reducible repeat (first | refine blk_drewN ?_ _ | refine blk_drew ?_ | refine blk_alloc ?_ _)); exact BK172.out) hb); have n1_ := Aside0.mk (blk_below (g := gb173) (o := .cells #[.int .i64 a1_0, .string a1_1, .slice A1_2 l1_2.length c1_2, .slice A1_3 l1_3.length c1_3] 25 (0, 0)) (by (with_reducible repeat (first | refine blk_drewN ?_ _ | refine blk_drew ?_ | refine blk_alloc ?_ _)); exact BK173.out) hb); have n2_ := Aside0.mk (below_step (by repeat (first | (with_reducible first | exact HB.out | apply below_alloc | apply pw_below_drewN | apply below_drew1 | refine below_set ?_ GE172.out | refine below_set ?_ GE173.out) | exact HB.out)) hb); have n3_ := Aside0.mk (hbox); have n4_ := Aside0.mk ((by rw [hg]; exact (below_size (by repeat (first | (with_reducible first | exact HB.out | apply below_alloc | apply pw_below_drewN | apply below_drew1 | refine below_set ?_ GE172.out | refine below_set ?_ GE173.out) | exact HB.out))) : w.heap.size ≤ gb175)); have n5_ := Aside0.mk ((by rw [hg]; exact (below_size (by repeat (first | (with_reducible first | exact HB.out | apply below_alloc | apply pw_below_drewN | apply below_drew1 | refine below_set ?_ GE172.out | refine below_set ?_ GE173.out) | exact HB.out))) : w.heap.size ≤ gb175)); have n6_ := Aside0.mk ((by rw [hg]; exact Nat.ne_of_lt (blk_lt (g := gb172) (o := .cells #[.int .i64 a0_0, .string a0_1, .slice A0_2 l0_2.length c0_2, .slice (some ad174) l0_3.length c0_3] 25 (0, 0)) (by (with_reducible repeat (first | refine blk_drewN ?_ _ | refine blk_drew ?_ | refine blk_alloc ?_ _)); exact BK172.out)) : gb172 ≠ gb175)); have n7_ := Aside0.mk ((by rw [hg]; exact Nat.ne_of_gt (blk_lt (g := gb172) (o := .cells #[.int .i64 a0_0, .string a0_1, .slice A0_2 l0_2.length c0_2, .slice (some ad174) l0_3.length c0_3] 25 (0, 0)) (by (with_reducible repeat (first | refine blk_drewN ?_ _ | refine blk_drew ?_ | refine blk_alloc ?_ _)); exact BK172.out)) : gb175 ≠ gb172)); have n8_ := Aside0.mk ((by rw [hg]; exact Nat.ne_of_lt (blk_lt (g := gb173) (o := .cells #[.int .i64 a1_0, .string a1_1, .slice A1_2 l1_2.length c1_2, .slice A1_3 l1_3.length c1_3] 25 (0, 0)) (by (with_reducible repeat (first | refine blk_drewN ?_ _ | refine blk_drew ?_ | refine blk_alloc ?_ _)); exact BK173.out)) : gb173 ≠ gb175)); have n9_ := Aside0.mk ((by rw [hg]; exact Nat.ne_of_gt (blk_lt (g := gb173) (o := .cells #[.int .i64 a1_0, .string a1_1, .slice A1_2 l1_2.length c1_2, .slice A1_3 l1_3.length c1_3] 25 (0, 0)) (by (with_reducible repeat (first | refine blk_drewN ?_ _ | refine blk_drew ?_ | refine blk_alloc ?_ _)); exact BK173.out)) : gb175 ≠ gb173)); clear BK172; clear BK173; clear HB; have BK172 := n0_; have BK173 := n1_; have HB := n2_; have BK175 := n3_; have GW175 := n4_; have GE175 := n5_; have NB172_175 := n6_; have NB175_172 := n7_; have NB173_175 := n8_; have NB175_173 := n9_; clear n0_ n1_ n2_ n3_ n4_ n5_ n6_ n7_ n8_ n9_; clear hb hbox hg; have hnb57 := NB175_172.out; have hnc57 := NB172_175.out; have hnb58 := NB175_173.out; have hnc58 := NB173_175.out; have hcz59_0 : w56.cell? ⟨gb175, 0, none⟩ = some (.int .i64 0) := (blk_cell BK175.out 0).trans rfl; have hcz59_1 : w56.cell? ⟨gb175, 1, none⟩ = some (.string (⟨#[]⟩ : ByteArray)) := (blk_cell BK175.out 1).trans rfl; have hcz59_2 : w56.cell? ⟨gb175, 2, none⟩ = some (.slice none 0 0) := (blk_cell BK175.out 2).trans rfl; have hcz59_3 : w56.cell? ⟨gb175, 3, none⟩ = some (.slice none 0 0) := (blk_cell BK175.out 3).trans rfl; have hfz59_0 := blk_frozen BK175.out 0; have hfz59_1 := blk_frozen BK175.out 1; have hfz59_2 := blk_frozen BK175.out 2; have hfz59_3 := blk_frozen BK175.out 3; have hnb60 := NB172_173.out; have hnc60 := NB173_172.out; have hcz61_0 : w56.cell? ⟨gb172, 0, none⟩ = some (.int .i64 a0_0) := (blk_cell BK172.out 0).trans rfl; have hcz61_1 : w56.cell? ⟨gb172, 1, none⟩ = some (.string a0_1) := (blk_cell BK172.out 1).trans rfl; have hcz61_2 : w56.cell? ⟨gb172, 2, none⟩ = some (.slice A0_2 l0_2.length c0_2) := (blk_cell BK172.out 2).trans rfl; have hcz61_3 : w56.cell? ⟨gb172, 3, none⟩ = some (.slice (some ad174) l0_3.length c0_3) := (blk_cell BK172.out 3).trans rfl; have hfz61_0 := blk_frozen BK172.out 0; have hfz61_1 := blk_frozen BK172.out 1; have hfz61_2 := blk_frozen BK172.out 2; have hfz61_3 := blk_frozen BK172.out 3))
               have n0_ : Aside0 (((((w56.setCell ⟨gb175, 0, none⟩ (.int .i64 ((rd_T25 l0_3 x41_2).f0))).setCell ⟨gb175, 1, none⟩ (.string ((rd_T25 l0_3 x41_2).f1))).setCell ⟨gb175, 2, none⟩ (.slice A174_2 ((rd_T25 l0_3 x41_2).f2).length c174_2)).setCell ⟨gb175, 3, none⟩ (.slice A174_3 ((rd_T25 l0_3 x41_2).f3).length c174_3)).heap[gb172]? = some (.cells #[.int .i64 a0_0, .string a0_1, .slice A0_2 l0_2.length c0_2, .slice (some ad174) l0_3.length c0_3] 25 (0, 0))) := ⟨by (with_reducible repeat (first | refine blk_drewN ?_ _ | refine blk_drew ?_ | refine blk_alloc ?_ _)); refine blk_far ?_ NB172_175.out _; (with_reducible repeat (first | refine blk_drewN ?_ _ | refine blk_drew ?_ | refine blk_alloc ?_ _)); refine blk_far ?_ NB172_175.out _; (with_reducible repeat (first | refine blk_drewN ?_ _ | refine blk_drew ?_ | refine blk_alloc ?_ _)); refine blk_far ?_ NB172_175.out _; (with_reducible repeat (first | refine blk_drewN ?_ _ | refine blk_drew ?_ | refine blk_alloc ?_ _)); refine blk_far ?_ NB172_175.out _; (with_reducible repeat (first | refine blk_drewN ?_ _ | refine blk_drew ?_ | refine blk_alloc ?_ _)); exact BK172.out⟩
               have n1_ : Aside0 (((((w56.setCell ⟨gb175, 0, none⟩ (.int .i64 ((rd_T25 l0_3 x41_2).f0))).setCell ⟨gb175, 1, none⟩ (.string ((rd_T25 l0_3 x41_2).f1))).setCell ⟨gb175, 2, none⟩ (.slice A174_2 ((rd_T25 l0_3 x41_2).f2).length c174_2)).setCell ⟨gb175, 3, none⟩ (.slice A174_3 ((rd_T25 l0_3 x41_2).f3).length c174_3)).heap[gb173]? = some (.cells #[.int .i64 a1_0, .string a1_1, .slice A1_2 l1_2.length c1_2, .slice A1_3 l1_3.length c1_3] 25 (0, 0))) := ⟨by (with_reducible repeat (first | refine blk_drewN ?_ _ | refine blk_drew ?_ | refine blk_alloc ?_ _)); refine blk_far ?_ NB173_175.out _; (with_reducible repeat (first | refine blk_drewN ?_ _ | refine blk_drew ?_ | refine blk_alloc ?_ _)); refine blk_far ?_ NB173_175.out _; (with_reducible repeat (first | refine blk_drewN ?_ _ | refine blk_drew ?_ | refine blk_alloc ?_ _)); refine blk_far ?_ NB173_175.out _; (with_reducible repeat (first | refine blk_drewN ?_ _ | refine blk_drew ?_ | refine blk_alloc ?_ _)); refine blk_far ?_ NB173_175.out _; (with_reducible repeat (first | refine blk_drewN ?_ _ | refine blk_drew ?_ | refine blk_alloc ?_ _)); exact BK173.out⟩
               have n2_ : Aside0 (((((w56.setCell ⟨gb175, 0, none⟩ (.int .i64 ((rd_T25 l0_3 x41_2).f0))).setCell ⟨gb175, 1, none⟩ (.string ((rd_T25 l0_3 x41_2).f1))).setCell ⟨gb175, 2, none⟩ (.slice A174_2 ((rd_T25 l0_3 x41_2).f2).length c174_2)).setCell ⟨gb175, 3, none⟩ (.slice A174_3 ((rd_T25 l0_3 x41_2).f3).length c174_3)).heap[gb175]? = some (.cells #[.int .i64 ((rd_T25 l0_3 x41_2).f0), .string ((rd_T25 l0_3 x41_2).f1), .slice A174_2 ((rd_T25 l0_3 x41_2).f2).length c174_2, .slice A174_3 ((rd_T25 l0_3 x41_2).f3).length c174_3] 25 (0, 0))) := ⟨by (with_reducible repeat (first | refine blk_drewN ?_ _ | refine blk_drew ?_ | refine blk_alloc ?_ _)); refine blk_put (cs := #[.int .i64 ((rd_T25 l0_3 x41_2).f0), .string ((rd_T25 l0_3 x41_2).f1), .slice A174_2 ((rd_T25 l0_3 x41_2).f2).length c174_2, .slice none 0 0]) ?_ 3 _ rfl; (with_reducible repeat (first | refine blk_drewN ?_ _ | refine blk_drew ?_ | refine blk_alloc ?_ _)); refine blk_put (cs := #[.int .i64 ((rd_T25 l0_3 x41_2).f0), .string ((rd_T25 l0_3 x41_2).f1), .slice none 0 0, .slice none 0 0]) ?_ 2 _ rfl; (with_reducible repeat (first | refine blk_drewN ?_ _ | refine blk_drew ?_ | refine blk_alloc ?_ _)); refine blk_put (cs := #[.int .i64 ((rd_T25 l0_3 x41_2).f0), .string (⟨#[]⟩ : ByteArray), .slice none 0 0, .slice none 0 0]) ?_ 1 _ rfl; (with_reducible repeat (first | refine blk_drewN ?_ _ | refine blk_drew ?_ | refine blk_alloc ?_ _)); refine blk_put (cs := #[.int .i64 0, .string (⟨#[]⟩ : ByteArray), .slice none 0 0, .slice none 0 0]) ?_ 0 _ rfl; (with_reducible repeat (first | refine blk_drewN ?_ _ | refine blk_drew ?_ | refine blk_alloc ?_ _)); exact BK175.out⟩
               have n3_ : Aside0 (Below w.heap.size w ((((w56.setCell ⟨gb175, 0, none⟩ (.int .i64 ((rd_T25 l0_3 x41_2).f0))).setCell ⟨gb175, 1, none⟩ (.string ((rd_T25 l0_3 x41_2).f1))).setCell ⟨gb175, 2, none⟩ (.slice A174_2 ((rd_T25 l0_3 x41_2).f2).length c174_2)).setCell ⟨gb175, 3, none⟩ (.slice A174_3 ((rd_T25 l0_3 x41_2).f3).length c174_3))) := ⟨by repeat (first | (with_reducible first | exact HB.out | apply below_alloc | apply pw_below_drewN | apply below_drew1 | refine below_set ?_ GE172.out | refine below_set ?_ GE173.out | refine below_set ?_ GE175.out) | exact HB.out)⟩
               (try clear BK172)
               (try clear BK173)
               (try clear BK175)
               (try clear HB)
               generalize ((((w56.setCell ⟨gb175, 0, none⟩ (.int .i64 ((rd_T25 l0_3 x41_2).f0))).setCell ⟨gb175, 1, none⟩ (.string ((rd_T25 l0_3 x41_2).f1))).setCell ⟨gb175, 2, none⟩ (.slice A174_2 ((rd_T25 l0_3 x41_2).f2).length c174_2)).setCell ⟨gb175, 3, none⟩ (.slice A174_3 ((rd_T25 l0_3 x41_2).f3).length c174_3)) = w62 at n0_ n1_ n2_ n3_ ⊢
               have BK172 := n0_
               have BK173 := n1_
               have BK175 := n2_
               have HB := n3_
               clear n0_ n1_ n2_ n3_
               have n0_ := Aside0.mk (blk_drew BK172.out)
               have n1_ := Aside0.mk (blk_drew BK173.out)
               have n2_ := Aside0.mk (blk_drew BK175.out)
               have n3_ := Aside0.mk (below_drew1 HB.out)
               clear BK172
               clear BK173
               clear BK175
               clear HB
               have BK172 := n0_
               have BK173 := n1_
               have BK175 := n2_
               have HB := n3_
               clear n0_ n1_ n2_ n3_
               have p176 : 0 ≤ (x41_2 : Int) := of_decide_eq_true (by first | (with_reducible assumption) | assumption)
               have q176 : x41_2 < (l0_2.length : Int) := of_decide_eq_true (by first | (with_reducible assumption) | assumption)
               obtain ⟨ad176, e176, hx176_0⟩ := Kd.at_string HR0_2.out x41_2 p176 q176
               have hw176_0 := hx176_0
               cases e176
               replace hx176_0 := (HB.out.cell (World.block_lt_of_cell? w _ hx176_0)).trans hx176_0
               replace p176 := eq_true p176
               replace q176 := eq_true q176
               refine start_ (n := 8) (S := fun w' => w'.cell? ⟨gb173, 0, none⟩ = some (.int .i64 a1_0) ∧ w'.cell? ⟨gb173, 1, none⟩ = some (.string a1_1) ∧ w'.cell? ⟨gb173, 2, none⟩ = some (.slice A1_2 l1_2.length c1_2) ∧ w'.cell? ⟨gb173, 3, none⟩ = some (.slice A1_3 l1_3.length c1_3) ∧ w'.cell? ⟨gb172, 0, none⟩ = some (.int .i64 a0_0) ∧ w'.cell? ⟨gb172, 1, none⟩ = some (.string a0_1) ∧ w'.cell? ⟨gb172, 2, none⟩ = some (.slice (some ad176) l0_2.length c0_2) ∧ w'.cell? ⟨gb172, 3, none⟩ = some (.slice (some ad174) l0_3.length c0_3) ∧ w'.cell? (ad176.add (x41_2).toNat) = some (.string (rdOf ByteArray.empty l0_2 x41_2))) (ds := []) #[false, false, false, false, false, false, false, false] (by kernel_rfl) rfl rfl ⟨(blk_cell BK173.out 0).trans rfl, (blk_cell BK173.out 1).trans rfl, (blk_cell BK173.out 2).trans rfl, (blk_cell BK173.out 3).trans rfl, (blk_cell BK172.out 0).trans rfl, (blk_cell BK172.out 1).trans rfl, (blk_cell BK172.out 2).trans rfl, (blk_cell BK172.out 3).trans rfl, ((HB.out.cell (World.block_lt_of_cell? w _ hw176_0)).trans hw176_0)⟩ (fun hHeld => ?_); refine with_tabW spec_Alike.tab8 spec_Alike.bits8 (fun HT_ HW_ => ?_)
               generalize w62.drew = w63 at BK172 BK173 BK175 HB hx176_0 hHeld ⊢
               refine pure_ (i := 1) (N := some 51) (v := ?_) (a' := ?_) #[false, true, false, false, false, false, false, false] rfl rfl (any_of HT_.out (by kernel_rfl)) (fun _ _ _ h => h) (Or.inl ⟨by rfl, ?_⟩) ?_ ?_
               rotate_left
               ·
                intro w'
                go_simp
                with_reducible rfl
               rotate_left
               ·
                simp only [Act.put, List.setIfInBounds_toArray, List.set_cons_zero, List.set_cons_succ, i64_w, i32_w]
                rfl
               refine pure_ (i := 3) (N := some 53) (v := ?_) (a' := ?_) #[false, true, false, true, false, false, false, false] rfl rfl (any_of HT_.out (by kernel_rfl)) (fun _ _ _ h => h) (Or.inl ⟨by rfl, ?_⟩) ?_ ?_
               rotate_left
               ·
                intro w'
                go_simp
                with_reducible rfl
               rotate_left
               ·
                simp only [Act.put, List.setIfInBounds_toArray, List.set_cons_zero, List.set_cons_succ, i64_w, i32_w]
                rfl
               refine take_ (i := 0) (N := some 50) (v := ?_) (a' := ?_) #[true, true, false, true, false, false, false, false] rfl rfl (take_ofW HT_.out HW_.out (by kernel_rfl)) (fun _ _ _ h => h) (Or.inl ⟨by rfl, ?_⟩) hHeld ?_ ?_
               rotate_left
               ·
                rintro w' ⟨s0, s1, s2, s3, s4, s5, s6, s7, s8⟩
                go_simp
                with_reducible rfl
               rotate_left
               ·
                simp only [Act.put, List.setIfInBounds_toArray, List.set_cons_zero, List.set_cons_succ, i64_w, i32_w]
                rfl
               refine take_ (i := 2) (N := some 52) (v := ?_) (a' := ?_) #[true, true, true, true, false, false, false, false] rfl rfl (take_ofW HT_.out HW_.out (by kernel_rfl)) (fun _ _ _ h => h) (Or.inl ⟨by rfl, ?_⟩) hHeld ?_ ?_
               rotate_left
               ·
                rintro w' ⟨s0, s1, s2, s3, s4, s5, s6, s7, s8⟩
                go_simp
                with_reducible rfl
               rotate_left
               ·
                simp only [Act.put, List.setIfInBounds_toArray, List.set_cons_zero, List.set_cons_succ, i64_w, i32_w]
                rfl
               refine pure_ (i := 4) (N := some 54) (v := ?_) (a' := ?_) #[true, true, true, true, true, false, false, false] rfl rfl (any_of HT_.out (by kernel_rfl)) (fun _ _ _ h => h) (Or.inl ⟨by rfl, ?_⟩) ?_ ?_
               rotate_left
               ·
                intro w'
                go_simp
                with_reducible rfl
               rotate_left
               ·
                simp only [Act.put, List.setIfInBounds_toArray, List.set_cons_zero, List.set_cons_succ, i64_w, i32_w]
                rfl
               refine take_ (i := 5) (N := some 55) (v := ?_) (a' := ?_) #[true, true, true, true, true, true, false, false] rfl rfl (take_ofW HT_.out HW_.out (by kernel_rfl)) (fun _ _ _ h => h) (Or.inl ⟨by rfl, ?_⟩) hHeld ?_ ?_
               rotate_left
               ·
                rintro w' ⟨s0, s1, s2, s3, s4, s5, s6, s7, s8⟩
                go_simp
                with_reducible rfl
               rotate_left
               ·
                simp only [Act.put, List.setIfInBounds_toArray, List.set_cons_zero, List.set_cons_succ, i64_w, i32_w]
                rfl
               refine one_ (i := 6) (N := some 56) #[true, true, true, true, true, true, true, false] rfl rfl (one_of HT_.out (by kernel_rfl)) (by decide) (fun K hK => ?_)
               refine goes_ Tryd.func12 (by kernel_rfl) rfl #[.agg #[.int .i64 a1_0, .string a1_1, .slice A1_2 l1_2.length c1_2, .slice A1_3 l1_3.length c1_3], .string (rdOf ByteArray.empty l0_2 x41_2)] (by rfl) rfl rfl (by (try simp only [List.map_toArray, List.map_cons, List.map_nil]); first | done | rfl | (simp only [List.length_drop, List.length_take]; rfl)) ?_
               with_reducible refine (spec_Member.calls k2 a1_0 a1_1 _ _ l1_2 _ _ l1_3 (rdOf ByteArray.empty l0_2 x41_2) t177 _ ?side1 ?side2 ?side3 ?side4 A29.out).mono ?_
               (case side1 => repeat (first | exact (Kd.C_below HR1_2.out HB.out) | (with_reducible refine Kd.C_alloc ?_ _) | (with_reducible refine Kd.C_drewN ?_ _) | (with_reducible refine Kd.C_drew ?_)))
               (case side2 => exact HC1_2.out)
               (case side3 => repeat (first | exact (Kd.C_below HR1_3.out HB.out) | (with_reducible refine Kd.C_alloc ?_ _) | (with_reducible refine Kd.C_drewN ?_ _) | (with_reducible refine Kd.C_drew ?_)))
               (case side4 => exact HC1_3.out)
               rintro e w64 ⟨rfl, hb⟩
               refine ⟨_, rfl, ?_⟩
               have n0_ := Aside0.mk (blk_below (g := gb172) (o := .cells #[.int .i64 a0_0, .string a0_1, .slice (some ad176) l0_2.length c0_2, .slice (some ad174) l0_3.length c0_3] 25 (0, 0)) (by (with_reducible repeat (first | refine blk_drewN ?_ _ | refine blk_drew ?_ | refine blk_alloc ?_ _)); exact BK172.out) hb)
               have n1_ := Aside0.mk (blk_below (g := gb173) (o := .cells #[.int .i64 a1_0, .string a1_1, .slice A1_2 l1_2.length c1_2, .slice A1_3 l1_3.length c1_3] 25 (0, 0)) (by (with_reducible repeat (first | refine blk_drewN ?_ _ | refine blk_drew ?_ | refine blk_alloc ?_ _)); exact BK173.out) hb)
               have n2_ := Aside0.mk (blk_below (g := gb175) (o := .cells #[.int .i64 ((rd_T25 l0_3 x41_2).f0), .string ((rd_T25 l0_3 x41_2).f1), .slice A174_2 ((rd_T25 l0_3 x41_2).f2).length c174_2, .slice A174_3 ((rd_T25 l0_3 x41_2).f3).length c174_3] 25 (0, 0)) (by (with_reducible repeat (first | refine blk_drewN ?_ _ | refine blk_drew ?_ | refine blk_alloc ?_ _)); exact BK175.out) hb)
               have n3_ := Aside0.mk (below_step (by repeat (first | (with_reducible first | exact HB.out | apply below_alloc | apply pw_below_drewN | apply below_drew1 | refine below_set ?_ GE172.out | refine below_set ?_ GE173.out | refine below_set ?_ GE175.out) | exact HB.out)) hb)
               clear BK172
               clear BK173
               clear BK175
               clear HB
               have BK172 := n0_
               have BK173 := n1_
               have BK175 := n2_
               have HB := n3_
               clear n0_ n1_ n2_ n3_
               (try clear hb)
               (try clear hb2)
               (try clear hk)
               (try clear hi)
               refine hK.out _ _ ⟨(blk_cell BK173.out 0).trans rfl, (blk_cell BK173.out 1).trans rfl, (blk_cell BK173.out 2).trans rfl, (blk_cell BK173.out 3).trans rfl, (blk_cell BK172.out 0).trans rfl, (blk_cell BK172.out 1).trans rfl, (blk_cell BK172.out 2).trans rfl, (blk_cell BK172.out 3).trans rfl, ((HB.out.cell (World.block_lt_of_cell? w _ hw176_0)).trans hw176_0)⟩ (fun hHeld => ?_)
               clear hK K
               refine norm_ (a' := ?_) ?_ ?_
               rotate_left
               ·
                show Act.put _ (some 56) _ = _
                simp only [Act.put, List.setIfInBounds_toArray, List.set_cons_zero, List.set_cons_succ, i64_w, i32_w]
                rfl
               refine pure_ (i := 7) (N := some 7) (v := ?_) (a' := ?_) #[true, true, true, true, true, true, true, true] rfl rfl (any_of HT_.out (by kernel_rfl)) (fun _ _ _ h => h) (Or.inl ⟨by rfl, ?_⟩) ?_ ?_
               rotate_left
               ·
                intro w'
                go_simp
                with_reducible rfl
               rotate_left
               ·
                simp only [Act.put, List.setIfInBounds_toArray, List.set_cons_zero, List.set_cons_succ, i64_w, i32_w]
                rfl
               refine done_ (done_of HT_.out (by kernel_rfl)) ?_
               try go_wp2
               have n0_ := Aside0.mk (blk_drew BK172.out)
               have n1_ := Aside0.mk (blk_drew BK173.out)
               have n2_ := Aside0.mk (blk_drew BK175.out)
               have n3_ := Aside0.mk (below_drew1 HB.out)
               clear BK172
               clear BK173
               clear BK175
               clear HB
               have BK172 := n0_
               have BK173 := n1_
               have BK175 := n2_
               have HB := n3_
               clear n0_ n1_ n2_ n3_
               have p178 : 0 ≤ (t177 : Int) := of_decide_eq_true (by first | (with_reducible assumption) | assumption)
               have q178 : t177 < (l1_3.length : Int) := of_decide_eq_true (by first | (with_reducible assumption) | assumption)
               obtain ⟨ad178, A178_2, c178_2, A178_3, c178_3, e178, hx178_0, hx178_1, hx178_2, hx178_3, hl178_2, hi178_2, hl178_3, hi178_3⟩ := at_T25 HR1_3.out t177 p178 q178
               have hw178_3 := hx178_3
               have hw178_2 := hx178_2
               have hw178_1 := hx178_1
               have hw178_0 := hx178_0
               cases e178
               replace hx178_0 := (HB.out.cell (World.block_lt_of_cell? w _ hx178_0)).trans hx178_0
               replace hx178_1 := (HB.out.cell (World.block_lt_of_cell? w _ hx178_1)).trans hx178_1
               replace hx178_2 := (HB.out.cell (World.block_lt_of_cell? w _ hx178_2)).trans hx178_2
               replace hx178_3 := (HB.out.cell (World.block_lt_of_cell? w _ hx178_3)).trans hx178_3
               have HR178_2 := Aside0.mk hi178_2
               have HC178_2 := Aside0.mk hl178_2
               clear hi178_2 hl178_2
               have HR178_3 := Aside0.mk hi178_3
               have HC178_3 := Aside0.mk hl178_3
               clear hi178_3 hl178_3
               replace p178 := eq_true p178
               replace q178 := eq_true q178
               refine start_ (n := 12) (S := fun w' => w'.cell? ⟨gb175, 0, none⟩ = some (.int .i64 ((rd_T25 l0_3 x41_2).f0)) ∧ w'.cell? ⟨gb175, 1, none⟩ = some (.string ((rd_T25 l0_3 x41_2).f1)) ∧ w'.cell? ⟨gb175, 2, none⟩ = some (.slice A174_2 ((rd_T25 l0_3 x41_2).f2).length c174_2) ∧ w'.cell? ⟨gb175, 3, none⟩ = some (.slice A174_3 ((rd_T25 l0_3 x41_2).f3).length c174_3) ∧ w'.cell? ⟨gb173, 0, none⟩ = some (.int .i64 a1_0) ∧ w'.cell? ⟨gb173, 1, none⟩ = some (.string a1_1) ∧ w'.cell? ⟨gb173, 2, none⟩ = some (.slice A1_2 l1_2.length c1_2) ∧ w'.cell? ⟨gb173, 3, none⟩ = some (.slice (some ad178) l1_3.length c1_3) ∧ w'.cell? (ad178.add ((t177).toNat * 4)) = some (.int .i64 ((rd_T25 l1_3 t177).f0)) ∧ w'.cell? ⟨(ad178.add ((t177).toNat * 4)).block, (ad178.add ((t177).toNat * 4)).off + 1, none⟩ = some (.string ((rd_T25 l1_3 t177).f1)) ∧ w'.cell? ⟨(ad178.add ((t177).toNat * 4)).block, (ad178.add ((t177).toNat * 4)).off + 2, none⟩ = some (.slice A178_2 ((rd_T25 l1_3 t177).f2).length c178_2) ∧ w'.cell? ⟨(ad178.add ((t177).toNat * 4)).block, (ad178.add ((t177).toNat * 4)).off + 3, none⟩ = some (.slice A178_3 ((rd_T25 l1_3 t177).f3).length c178_3)) (ds := []) #[false, false, false, false, false, false, false, false, false, false, false, false] (by kernel_rfl) rfl rfl ⟨(blk_cell BK175.out 0).trans rfl, (blk_cell BK175.out 1).trans rfl, (blk_cell BK175.out 2).trans rfl, (blk_cell BK175.out 3).trans rfl, (blk_cell BK173.out 0).trans rfl, (blk_cell BK173.out 1).trans rfl, (blk_cell BK173.out 2).trans rfl, (blk_cell BK173.out 3).trans rfl, ((HB.out.cell (World.block_lt_of_cell? w _ hw178_0)).trans hw178_0), ((HB.out.cell (World.block_lt_of_cell? w _ hw178_1)).trans hw178_1), ((HB.out.cell (World.block_lt_of_cell? w _ hw178_2)).trans hw178_2), ((HB.out.cell (World.block_lt_of_cell? w _ hw178_3)).trans hw178_3)⟩ (fun hHeld => ?_); refine with_tabW spec_Alike.tab9 spec_Alike.bits9 (fun HT_ HW_ => ?_)
               generalize w64.drew = w65 at BK172 BK173 BK175 HB HR178_2 HR178_3 hx178_0 hx178_1 hx178_2 hx178_3 hHeld ⊢
               refine pure_ (i := 0) (N := some 57) (v := ?_) (a' := ?_) #[true, false, false, false, false, false, false, false, false, false, false, false] rfl rfl (any_of HT_.out (by kernel_rfl)) (fun _ _ _ h => h) (Or.inl ⟨by rfl, ?_⟩) ?_ ?_
               rotate_left
               ·
                intro w'
                go_simp
                with_reducible rfl
               rotate_left
               ·
                simp only [Act.put, List.setIfInBounds_toArray, List.set_cons_zero, List.set_cons_succ, i64_w, i32_w]
                rfl
               refine pure_ (i := 1) (N := some 58) (v := ?_) (a' := ?_) #[true, true, false, false, false, false, false, false, false, false, false, false] rfl rfl (any_of HT_.out (by kernel_rfl)) (fun _ _ _ h => h) (Or.inl ⟨by rfl, ?_⟩) ?_ ?_
               rotate_left
               ·
                intro w'
                go_simp
                with_reducible rfl
               rotate_left
               ·
                simp only [Act.put, List.setIfInBounds_toArray, List.set_cons_zero, List.set_cons_succ, i64_w, i32_w]
                rfl
               refine pure_ (i := 2) (N := some 59) (v := ?_) (a' := ?_) #[true, true, true, false, false, false, false, false, false, false, false, false] rfl rfl (any_of HT_.out (by kernel_rfl)) (fun _ _ _ h => h) (Or.inl ⟨by rfl, ?_⟩) ?_ ?_
               rotate_left
               ·
                intro w'
                go_simp
                with_reducible rfl
               rotate_left
               ·
                simp only [Act.put, List.setIfInBounds_toArray, List.set_cons_zero, List.set_cons_succ, i64_w, i32_w]
                rfl
               refine pure_ (i := 4) (N := some 61) (v := ?_) (a' := ?_) #[true, true, true, false, true, false, false, false, false, false, false, false] rfl rfl (any_of HT_.out (by kernel_rfl)) (fun _ _ _ h => h) (Or.inl ⟨by rfl, ?_⟩) ?_ ?_
               rotate_left
               ·
                intro w'
                go_simp
                with_reducible rfl
               rotate_left
               ·
                simp only [Act.put, List.setIfInBounds_toArray, List.set_cons_zero, List.set_cons_succ, i64_w, i32_w]
                rfl
               refine pure_ (i := 6) (N := some 63) (v := ?_) (a' := ?_) #[true, true, true, false, true, false, true, false, false, false, false, false] rfl rfl (any_of HT_.out (by kernel_rfl)) (fun _ _ _ h => h) (Or.inl ⟨by rfl, ?_⟩) ?_ ?_
               rotate_left
               ·
                intro w'
                go_simp
                with_reducible rfl
               rotate_left
               ·
                simp only [Act.put, List.setIfInBounds_toArray, List.set_cons_zero, List.set_cons_succ, i64_w, i32_w]
                rfl
               refine take_ (i := 3) (N := some 60) (v := ?_) (a' := ?_) #[true, true, true, true, true, false, true, false, false, false, false, false] rfl rfl (take_ofW HT_.out HW_.out (by kernel_rfl)) (fun _ _ _ h => h) (Or.inl ⟨by rfl, ?_⟩) hHeld ?_ ?_
               rotate_left
               ·
                rintro w' ⟨s0, s1, s2, s3, s4, s5, s6, s7, s8, s9, s10, s11⟩
                go_simp
                with_reducible rfl
               rotate_left
               ·
                simp only [Act.put, List.setIfInBounds_toArray, List.set_cons_zero, List.set_cons_succ, i64_w, i32_w]
                rfl
               refine take_ (i := 5) (N := some 62) (v := ?_) (a' := ?_) #[true, true, true, true, true, true, true, false, false, false, false, false] rfl rfl (take_ofW HT_.out HW_.out (by kernel_rfl)) (fun _ _ _ h => h) (Or.inl ⟨by rfl, ?_⟩) hHeld ?_ ?_
               rotate_left
               ·
                rintro w' ⟨s0, s1, s2, s3, s4, s5, s6, s7, s8, s9, s10, s11⟩
                go_simp
                with_reducible rfl
               rotate_left
               ·
                simp only [Act.put, List.setIfInBounds_toArray, List.set_cons_zero, List.set_cons_succ, i64_w, i32_w]
                rfl
               refine pure_ (i := 7) (N := some 64) (v := ?_) (a' := ?_) #[true, true, true, true, true, true, true, true, false, false, false, false] rfl rfl (any_of HT_.out (by kernel_rfl)) (fun _ _ _ h => h) (Or.inl ⟨by rfl, ?_⟩) ?_ ?_
               rotate_left
               ·
                intro w'
                go_simp
                with_reducible rfl
               rotate_left
               ·
                simp only [Act.put, List.setIfInBounds_toArray, List.set_cons_zero, List.set_cons_succ, i64_w, i32_w]
                rfl
               refine take_ (i := 8) (N := some 65) (v := ?_) (a' := ?_) #[true, true, true, true, true, true, true, true, true, false, false, false] rfl rfl (take_ofW HT_.out HW_.out (by kernel_rfl)) (fun _ _ _ h => h) (Or.inl ⟨by rfl, ?_⟩) hHeld ?_ ?_
               rotate_left
               ·
                rintro w' ⟨s0, s1, s2, s3, s4, s5, s6, s7, s8, s9, s10, s11⟩
                go_simp
                with_reducible rfl
               rotate_left
               ·
                simp only [Act.put, List.setIfInBounds_toArray, List.set_cons_zero, List.set_cons_succ, i64_w, i32_w]
                rfl
               refine one_ (i := 9) (N := some 66) #[true, true, true, true, true, true, true, true, true, true, false, false] rfl rfl (one_of HT_.out (by kernel_rfl)) (by decide) (fun K hK => ?_)
               refine goes_ Tryd.func8 (by kernel_rfl) rfl #[.agg #[.int .i64 ((rd_T25 l0_3 x41_2).f0), .string ((rd_T25 l0_3 x41_2).f1), .slice A174_2 ((rd_T25 l0_3 x41_2).f2).length c174_2, .slice A174_3 ((rd_T25 l0_3 x41_2).f3).length c174_3], .agg #[.int .i64 ((rd_T25 l1_3 t177).f0), .string ((rd_T25 l1_3 t177).f1), .slice A178_2 ((rd_T25 l1_3 t177).f2).length c178_2, .slice A178_3 ((rd_T25 l1_3 t177).f3).length c178_3]] (by rfl) rfl rfl (by (try simp only [List.map_toArray, List.map_cons, List.map_nil]); first | done | rfl | (simp only [List.length_drop, List.length_take]; rfl)) ?_
               with_reducible refine (ih k2 (by have := HJ2.out; have := HK2.out; omega) ((rd_T25 l0_3 x41_2).f0) ((rd_T25 l0_3 x41_2).f1) _ _ ((rd_T25 l0_3 x41_2).f2) _ _ ((rd_T25 l0_3 x41_2).f3) ((rd_T25 l1_3 t177).f0) ((rd_T25 l1_3 t177).f1) _ _ ((rd_T25 l1_3 t177).f2) _ _ ((rd_T25 l1_3 t177).f3) false _ ?side1 ?side2 ?side3 ?side4 ?side5 ?side6 ?side7 ?side8 A43.out).mono ?_
               (case side1 => repeat (first | exact (Kd.C_below HR174_2.out HB.out) | (with_reducible refine Kd.C_alloc ?_ _) | (with_reducible refine Kd.C_drewN ?_ _) | (with_reducible refine Kd.C_drew ?_)))
               (case side2 => exact HC174_2.out)
               (case side3 => repeat (first | exact (Kd.C_below HR174_3.out HB.out) | (with_reducible refine Kd.C_alloc ?_ _) | (with_reducible refine Kd.C_drewN ?_ _) | (with_reducible refine Kd.C_drew ?_)))
               (case side4 => exact HC174_3.out)
               (case side5 => repeat (first | exact (Kd.C_below HR178_2.out HB.out) | (with_reducible refine Kd.C_alloc ?_ _) | (with_reducible refine Kd.C_drewN ?_ _) | (with_reducible refine Kd.C_drew ?_)))
               (case side6 => exact HC178_2.out)
               (case side7 => repeat (first | exact (Kd.C_below HR178_3.out HB.out) | (with_reducible refine Kd.C_alloc ?_ _) | (with_reducible refine Kd.C_drewN ?_ _) | (with_reducible refine Kd.C_drew ?_)))
               (case side8 => exact HC178_3.out)
               rintro e w66 ⟨rfl, hb⟩
               refine ⟨_, rfl, ?_⟩
               have n0_ := Aside0.mk (blk_below (g := gb172) (o := .cells #[.int .i64 a0_0, .string a0_1, .slice (some ad176) l0_2.length c0_2, .slice (some ad174) l0_3.length c0_3] 25 (0, 0)) (by (with_reducible repeat (first | refine blk_drewN ?_ _ | refine blk_drew ?_ | refine blk_alloc ?_ _)); exact BK172.out) hb)
               have n1_ := Aside0.mk (blk_below (g := gb173) (o := .cells #[.int .i64 a1_0, .string a1_1, .slice A1_2 l1_2.length c1_2, .slice (some ad178) l1_3.length c1_3] 25 (0, 0)) (by (with_reducible repeat (first | refine blk_drewN ?_ _ | refine blk_drew ?_ | refine blk_alloc ?_ _)); exact BK173.out) hb)
               have n2_ := Aside0.mk (blk_below (g := gb175) (o := .cells #[.int .i64 ((rd_T25 l0_3 x41_2).f0), .string ((rd_T25 l0_3 x41_2).f1), .slice A174_2 ((rd_T25 l0_3 x41_2).f2).length c174_2, .slice A174_3 ((rd_T25 l0_3 x41_2).f3).length c174_3] 25 (0, 0)) (by (with_reducible repeat (first | refine blk_drewN ?_ _ | refine blk_drew ?_ | refine blk_alloc ?_ _)); exact BK175.out) hb)
               have n3_ := Aside0.mk (below_step (by repeat (first | (with_reducible first | exact HB.out | apply below_alloc | apply pw_below_drewN | apply below_drew1 | refine below_set ?_ GE172.out | refine below_set ?_ GE173.out | refine below_set ?_ GE175.out) | exact HB.out)) hb)
               clear BK172
               clear BK173
               clear BK175
               clear HB
               have BK172 := n0_
               have BK173 := n1_
               have BK175 := n2_
               have HB := n3_
               clear n0_ n1_ n2_ n3_
               (try clear hb)
               (try clear hb2)
               (try clear hk)
               (try clear hi)
               refine hK.out _ _ ⟨(blk_cell BK175.out 0).trans rfl, (blk_cell BK175.out 1).trans rfl, (blk_cell BK175.out 2).trans rfl, (blk_cell BK175.out 3).trans rfl, (blk_cell BK173.out 0).trans rfl, (blk_cell BK173.out 1).trans rfl, (blk_cell BK173.out 2).trans rfl, (blk_cell BK173.out 3).trans rfl, ((HB.out.cell (World.block_lt_of_cell? w _ hw178_0)).trans hw178_0), ((HB.out.cell (World.block_lt_of_cell? w _ hw178_1)).trans hw178_1), ((HB.out.cell (World.block_lt_of_cell? w _ hw178_2)).trans hw178_2), ((HB.out.cell (World.block_lt_of_cell? w _ hw178_3)).trans hw178_3)⟩ (fun hHeld => ?_)
               clear hK K
               refine norm_ (a' := ?_) ?_ ?_
               rotate_left
               ·
                show Act.put _ (some 66) _ = _
                simp only [Act.put, List.setIfInBounds_toArray, List.set_cons_zero, List.set_cons_succ, i64_w, i32_w]
                rfl
               refine pure_ (i := 10) (N := some 67) (v := ?_) (a' := ?_) #[true, true, true, true, true, true, true, true, true, true, true, false] rfl rfl (any_of HT_.out (by kernel_rfl)) (fun _ _ _ h => h) (Or.inl ⟨by rfl, ?_⟩) ?_ ?_
               rotate_left
               ·
                intro w'
                go_simp
                with_reducible rfl
               rotate_left
               ·
                simp only [Act.put, List.setIfInBounds_toArray, List.set_cons_zero, List.set_cons_succ, i64_w, i32_w]
                rfl
               refine pure_ (i := 11) (N := some 68) (v := ?_) (a' := ?_) #[true, true, true, true, true, true, true, true, true, true, true, true] rfl rfl (any_of HT_.out (by kernel_rfl)) (fun _ _ _ h => h) (Or.inl ⟨by rfl, ?_⟩) ?_ ?_
               rotate_left
               ·
                intro w'
                go_simp
                with_reducible rfl
               rotate_left
               ·
                simp only [Act.put, List.setIfInBounds_toArray, List.set_cons_zero, List.set_cons_succ, i64_w, i32_w]
                rfl
               refine done_ (done_of HT_.out (by kernel_rfl)) ?_
               try go_wp2
               go_ret
               exact ⟨by first | rfl | (simp [errW_none, errW_some] <;> rfl) | (simp [*, errW_none, errW_some] <;> rfl), by repeat (first | (with_reducible first | exact HB.out | apply below_alloc | apply pw_below_drewN | apply below_drew1 | refine below_set ?_ GE172.out | refine below_set ?_ GE173.out | refine below_set ?_ GE175.out) | exact HB.out)⟩
             ·
              rw [if_neg c42] at H
              exact absurd H (by simp)
            ·
             rw [if_neg c41] at H
             exact absurd H (by simp)
          ·
           rw [if_neg c28] at H
           exact absurd H (by simp)
         ·
          rw [if_neg c27] at H
          have c27b0 : (a0_0 == 6) = false := beq_eq_false_iff_ne.mpr c27
          have c27b1 : (a0_0 != 6) = true := bne_iff_ne.mpr c27
          by_cases c67 : x41_2 < 0
          ·
           rw [if_pos c67] at H
           have c67b0 : decide (x41_2 < 0) = true := decide_eq_true c67
           clear c67
           obtain rfl := Option.some.inj H
           have p174 : 0 ≤ (x41_2 : Int) := of_decide_eq_true (by first | (with_reducible assumption) | assumption)
           have q174 : x41_2 < (l0_3.length : Int) := of_decide_eq_true (by first | (with_reducible assumption) | assumption)
           obtain ⟨ad174, A174_2, c174_2, A174_3, c174_3, e174, hx174_0, hx174_1, hx174_2, hx174_3, hl174_2, hi174_2, hl174_3, hi174_3⟩ := at_T25 HR0_3.out x41_2 p174 q174
           cases e174
           replace hx174_0 := (HB.out.cell (World.block_lt_of_cell? w _ hx174_0)).trans hx174_0
           replace hx174_1 := (HB.out.cell (World.block_lt_of_cell? w _ hx174_1)).trans hx174_1
           replace hx174_2 := (HB.out.cell (World.block_lt_of_cell? w _ hx174_2)).trans hx174_2
           replace hx174_3 := (HB.out.cell (World.block_lt_of_cell? w _ hx174_3)).trans hx174_3
           have HR174_2 := Aside0.mk hi174_2
           have HC174_2 := Aside0.mk hl174_2
           clear hi174_2 hl174_2
           have HR174_3 := Aside0.mk hi174_3
           have HC174_3 := Aside0.mk hl174_3
           clear hi174_3 hl174_3
           replace p174 := eq_true p174
           replace q174 := eq_true q174
           try go_wp2_with (first | ((with_reducible refine gate_dst (N := 6) rfl ?_); (try (refine gate_guard (by rfl) ?_; dsimp only)); refine box_event ?hg (N := 6) ?hd (cs := #[.int .i64 0, .string (⟨#[]⟩ : ByteArray), .slice none 0 0, .slice none 0 0]) (t := 25) ?hr ?_; (case hd => rfl); (case hg => rfl); (case hr => first | (go_simp; done) | (go_simp; rfl)); intro gb175 hg w68 hbox hb; have n0_ := Aside0.mk (blk_below (g := gb172) (o := .cells #[.int .i64 a0_0, .string a0_1, .slice A0_2 l0_2.length c0_2, .slice (some ad174) l0_3.length c0_3] 25 (0, 0)) (by (with_reducible repeat (first | refine blk_drewN ?_ _ | refine blk_drew ?_ | refine blk_alloc ?_ _)); exact BK172.out) hb); have n1_ := Aside0.mk (blk_below (g := gb173) (o := .cells #[.int .i64 a1_0, .string a1_1, .slice A1_2 l1_2.length c1_2, .slice A1_3 l1_3.length c1_3] 25 (0, 0)) (by (with_reducible repeat (first | refine blk_drewN ?_ _ | refine blk_drew ?_ | refine blk_alloc ?_ _)); exact BK173.out) hb); have n2_ := Aside0.mk (below_step (by repeat (first | (with_reducible first | exact HB.out | apply below_alloc | apply pw_below_drewN | apply below_drew1 | refine below_set ?_ GE172.out | refine below_set ?_ GE173.out) | exact HB.out)) hb); have n3_ := Aside0.mk (hbox); have n4_ := Aside0.mk ((by rw [hg]; exact (below_size (by repeat (first | (with_reducible first | exact HB.out | apply below_alloc | apply pw_below_drewN | apply below_drew1 | refine below_set ?_ GE172.out | refine below_set ?_ GE173.out) | exact HB.out))) : w.heap.size ≤ gb175)); have n5_ := Aside0.mk ((by rw [hg]; exact (below_size (by repeat (first | (with_reducible first | exact HB.out | apply below_alloc | apply pw_below_drewN | apply below_drew1 | refine below_set ?_ GE172.out | refine below_set ?_ GE173.out) | exact HB.out))) : w.heap.size ≤ gb175)); have n6_ := Aside0.mk ((by rw [hg]; exact Nat.ne_of_lt (blk_lt (g := gb172) (o := .cells #[.int .i64 a0_0, .string a0_1, .slice A0_2 l0_2.length c0_2, .slice (some ad174) l0_3.length c0_3] 25 (0, 0)) (by (with_reducible repeat (first | refine blk_drewN ?_ _ | refine blk_drew ?_ | refine blk_alloc ?_ _)); exact BK172.out)) : gb172 ≠ gb175)); have n7_ := Aside0.mk ((by rw [hg]; exact Nat.ne_of_gt (blk_lt (g := gb172) (o := .cells #[.int .i64 a0_0, .string a0_1, .slice A0_2 l0_2.length c0_2, .slice (some ad174) l0_3.length c0_3] 25 (0, 0)) (by (with_reducible repeat (first | refine blk_drewN ?_ _ | refine blk_drew ?_ | refine blk_alloc ?_ _)); exact BK172.out)) : gb175 ≠ gb172)); have n8_ := Aside0.mk ((by rw [hg]; exact Nat.ne_of_lt (blk_lt (g := gb173) (o := .cells #[.int .i64 a1_0, .string a1_1, .slice A1_2 l1_2.length c1_2, .slice A1_3 l1_3.length c1_3] 25 (0, 0)) (by (with_reducible repeat (first | refine blk_drewN ?_ _ | refine blk_drew ?_ | refine blk_alloc ?_ _)); exact BK173.out)) : gb173 ≠ gb175)); have n9_ := Aside0.mk ((by rw [hg]; exact Nat.ne_of_gt (blk_lt (g := gb173) (o := .cells #[.int .i64 a1_0, .string a1_1, .slice A1_2 l1_2.length c1_2, .slice A1_3 l1_3.length c1_3] 25 (0, 0)) (by (with_reducible repeat (first | refine blk_drewN ?_ _ | refine blk_drew ?_ | refine blk_alloc ?_ _)); exact BK173.out)) : gb175 ≠ gb173)); clear BK172; clear BK173; clear HB; have BK172 := n0_; have BK173 := n1_; have HB := n2_; have BK175 := n3_; have GW175 := n4_; have GE175 := n5_; have NB172_175 := n6_; have NB175_172 := n7_; have NB173_175 := n8_; have NB175_173 := n9_; clear n0_ n1_ n2_ n3_ n4_ n5_ n6_ n7_ n8_ n9_; clear hb hbox hg; have hnb69 := NB175_172.out; have hnc69 := NB172_175.out; have hnb70 := NB175_173.out; have hnc70 := NB173_175.out; have hcz71_0 : w68.cell? ⟨gb175, 0, none⟩ = some (.int .i64 0) := (blk_cell BK175.out 0).trans rfl; have hcz71_1 : w68.cell? ⟨gb175, 1, none⟩ = some (.string (⟨#[]⟩ : ByteArray)) := (blk_cell BK175.out 1).trans rfl; have hcz71_2 : w68.cell? ⟨gb175, 2, none⟩ = some (.slice none 0 0) := (blk_cell BK175.out 2).trans rfl; have hcz71_3 : w68.cell? ⟨gb175, 3, none⟩ = some (.slice none 0 0) := (blk_cell BK175.out 3).trans rfl; have hfz71_0 := blk_frozen BK175.out 0; have hfz71_1 := blk_frozen BK175.out 1; have hfz71_2 := blk_frozen BK175.out 2; have hfz71_3 := blk_frozen BK175.out 3; have hnb72 := NB172_173.out; have hnc72 := NB173_172.out; have hcz73_0 : w68.cell? ⟨gb172, 0, none⟩ = some (.int .i64 a0_0) := (blk_cell BK172.out 0).trans rfl; have hcz73_1 : w68.cell? ⟨gb172, 1, none⟩ = some (.string a0_1) := (blk_cell BK172.out 1).trans rfl; have hcz73_2 : w68.cell? ⟨gb172, 2, none⟩ = some (.slice A0_2 l0_2.length c0_2) := (blk_cell BK172.out 2).trans rfl; have hcz73_3 : w68.cell? ⟨gb172, 3, none⟩ = some (.slice (some ad174) l0_3.length c0_3) := (blk_cell BK172.out 3).trans rfl; have hfz73_0 := blk_frozen BK172.out 0; have hfz73_1 := blk_frozen BK172.out 1; have hfz73_2 := blk_frozen BK172.out 2; have hfz73_3 := blk_frozen BK172.out 3))
           have n0_ : Aside0 (((((w68.setCell ⟨gb175, 0, none⟩ (.int .i64 ((rd_T25 l0_3 x41_2).f0))).setCell ⟨gb175, 1, none⟩ (.string ((rd_T25 l0_3 x41_2).f1))).setCell ⟨gb175, 2, none⟩ (.slice A174_2 ((rd_T25 l0_3 x41_2).f2).length c174_2)).setCell ⟨gb175, 3, none⟩ (.slice A174_3 ((rd_T25 l0_3 x41_2).f3).length c174_3)).heap[gb172]? = some (.cells #[.int .i64 a0_0, .string a0_1, .slice A0_2 l0_2.length c0_2, .slice (some ad174) l0_3.length c0_3] 25 (0, 0))) := ⟨by (with_reducible repeat (first | refine blk_drewN ?_ _ | refine blk_drew ?_ | refine blk_alloc ?_ _)); refine blk_far ?_ NB172_175.out _; (with_reducible repeat (first | refine blk_drewN ?_ _ | refine blk_drew ?_ | refine blk_alloc ?_ _)); refine blk_far ?_ NB172_175.out _; (with_reducible repeat (first | refine blk_drewN ?_ _ | refine blk_drew ?_ | refine blk_alloc ?_ _)); refine blk_far ?_ NB172_175.out _; (with_reducible repeat (first | refine blk_drewN ?_ _ | refine blk_drew ?_ | refine blk_alloc ?_ _)); refine blk_far ?_ NB172_175.out _; (with_reducible repeat (first | refine blk_drewN ?_ _ | refine blk_drew ?_ | refine blk_alloc ?_ _)); exact BK172.out⟩
           have n1_ : Aside0 (((((w68.setCell ⟨gb175, 0, none⟩ (.int .i64 ((rd_T25 l0_3 x41_2).f0))).setCell ⟨gb175, 1, none⟩ (.string ((rd_T25 l0_3 x41_2).f1))).setCell ⟨gb175, 2, none⟩ (.slice A174_2 ((rd_T25 l0_3 x41_2).f2).length c174_2)).setCell ⟨gb175, 3, none⟩ (.slice A174_3 ((rd_T25 l0_3 x41_2).f3).length c174_3)).heap[gb173]? = some (.cells #[.int .i64 a1_0, .string a1_1, .slice A1_2 l1_2.length c1_2, .slice A1_3 l1_3.length c1_3] 25 (0, 0))) := ⟨by (with_reducible repeat (first | refine blk_drewN ?_ _ | refine blk_drew ?_ | refine blk_alloc ?_ _)); refine blk_far ?_ NB173_175.out _; (with_reducible repeat (first | refine blk_drewN ?_ _ | refine blk_drew ?_ | refine blk_alloc ?_ _)); refine blk_far ?_ NB173_175.out _; (with_reducible repeat (first | refine blk_drewN ?_ _ | refine blk_drew ?_ | refine blk_alloc ?_ _)); refine blk_far ?_ NB173_175.out _; (with_reducible repeat (first | refine blk_drewN ?_ _ | refine blk_drew ?_ | refine blk_alloc ?_ _)); refine blk_far ?_ NB173_175.out _; (with_reducible repeat (first | refine blk_drewN ?_ _ | refine blk_drew ?_ | refine blk_alloc ?_ _)); exact BK173.out⟩
           have n2_ : Aside0 (((((w68.setCell ⟨gb175, 0, none⟩ (.int .i64 ((rd_T25 l0_3 x41_2).f0))).setCell ⟨gb175, 1, none⟩ (.string ((rd_T25 l0_3 x41_2).f1))).setCell ⟨gb175, 2, none⟩ (.slice A174_2 ((rd_T25 l0_3 x41_2).f2).length c174_2)).setCell ⟨gb175, 3, none⟩ (.slice A174_3 ((rd_T25 l0_3 x41_2).f3).length c174_3)).heap[gb175]? = some (.cells #[.int .i64 ((rd_T25 l0_3 x41_2).f0), .string ((rd_T25 l0_3 x41_2).f1), .slice A174_2 ((rd_T25 l0_3 x41_2).f2).length c174_2, .slice A174_3 ((rd_T25 l0_3 x41_2).f3).length c174_3] 25 (0, 0))) := ⟨by (with_reducible repeat (first | refine blk_drewN ?_ _ | refine blk_drew ?_ | refine blk_alloc ?_ _)); refine blk_put (cs := #[.int .i64 ((rd_T25 l0_3 x41_2).f0), .string ((rd_T25 l0_3 x41_2).f1), .slice A174_2 ((rd_T25 l0_3 x41_2).f2).length c174_2, .slice none 0 0]) ?_ 3 _ rfl; (with_reducible repeat (first | refine blk_drewN ?_ _ | refine blk_drew ?_ | refine blk_alloc ?_ _)); refine blk_put (cs := #[.int .i64 ((rd_T25 l0_3 x41_2).f0), .string ((rd_T25 l0_3 x41_2).f1), .slice none 0 0, .slice none 0 0]) ?_ 2 _ rfl; (with_reducible repeat (first | refine blk_drewN ?_ _ | refine blk_drew ?_ | refine blk_alloc ?_ _)); refine blk_put (cs := #[.int .i64 ((rd_T25 l0_3 x41_2).f0), .string (⟨#[]⟩ : ByteArray), .slice none 0 0, .slice none 0 0]) ?_ 1 _ rfl; (with_reducible repeat (first | refine blk_drewN ?_ _ | refine blk_drew ?_ | refine blk_alloc ?_ _)); refine blk_put (cs := #[.int .i64 0, .string (⟨#[]⟩ : ByteArray), .slice none 0 0, .slice none 0 0]) ?_ 0 _ rfl; (with_reducible repeat (first | refine blk_drewN ?_ _ | refine blk_drew ?_ | refine blk_alloc ?_ _)); exact BK175.out⟩
           have n3_ : Aside0 (Below w.heap.size w ((((w68.setCell ⟨gb175, 0, none⟩ (.int .i64 ((rd_T25 l0_3 x41_2).f0))).setCell ⟨gb175, 1, none⟩ (.string ((rd_T25 l0_3 x41_2).f1))).setCell ⟨gb175, 2, none⟩ (.slice A174_2 ((rd_T25 l0_3 x41_2).f2).length c174_2)).setCell ⟨gb175, 3, none⟩ (.slice A174_3 ((rd_T25 l0_3 x41_2).f3).length c174_3))) := ⟨by repeat (first | (with_reducible first | exact HB.out | apply below_alloc | apply pw_below_drewN | apply below_drew1 | refine below_set ?_ GE172.out | refine below_set ?_ GE173.out | refine below_set ?_ GE175.out) | exact HB.out)⟩
           (try clear BK172)
           (try clear BK173)
           (try clear BK175)
           (try clear HB)
           generalize ((((w68.setCell ⟨gb175, 0, none⟩ (.int .i64 ((rd_T25 l0_3 x41_2).f0))).setCell ⟨gb175, 1, none⟩ (.string ((rd_T25 l0_3 x41_2).f1))).setCell ⟨gb175, 2, none⟩ (.slice A174_2 ((rd_T25 l0_3 x41_2).f2).length c174_2)).setCell ⟨gb175, 3, none⟩ (.slice A174_3 ((rd_T25 l0_3 x41_2).f3).length c174_3)) = w74 at n0_ n1_ n2_ n3_ ⊢
           have BK172 := n0_
           have BK173 := n1_
           have BK175 := n2_
           have HB := n3_
           clear n0_ n1_ n2_ n3_
           have n0_ := Aside0.mk (blk_drew BK172.out)
           have n1_ := Aside0.mk (blk_drew BK173.out)
           have n2_ := Aside0.mk (blk_drew BK175.out)
           have n3_ := Aside0.mk (below_drew1 HB.out)
           clear BK172
           clear BK173
           clear BK175
           clear HB
           have BK172 := n0_
           have BK173 := n1_
           have BK175 := n2_
           have HB := n3_
           clear n0_ n1_ n2_ n3_
           refine start_ (n := 12) (S := fun w' => True) (ds := []) #[false, false, false, false, false, false, false, false, false, false, false, false] (by kernel_rfl) rfl rfl trivial (fun hHeld => ?_); refine with_tabW spec_Alike.tab9 spec_Alike.bits9 (fun HT_ HW_ => ?_)
           generalize w74.drew = w75 at BK172 BK173 BK175 HB hHeld ⊢
           refine pure_ (i := 0) (N := some 57) (v := ?_) (a' := ?_) #[true, false, false, false, false, false, false, false, false, false, false, false] rfl rfl (any_of HT_.out (by kernel_rfl)) (fun _ _ _ h => h) (Or.inl ⟨by rfl, ?_⟩) ?_ ?_
           rotate_left
           ·
            intro w'
            go_simp
            with_reducible rfl
           rotate_left
           ·
            simp only [Act.put, List.setIfInBounds_toArray, List.set_cons_zero, List.set_cons_succ, i64_w, i32_w]
            rfl
           refine pure_ (i := 1) (N := some 58) (v := ?_) (a' := ?_) #[true, true, false, false, false, false, false, false, false, false, false, false] rfl rfl (any_of HT_.out (by kernel_rfl)) (fun _ _ _ h => h) (Or.inl ⟨by rfl, ?_⟩) ?_ ?_
           rotate_left
           ·
            intro w'
            go_simp
            with_reducible rfl
           rotate_left
           ·
            simp only [Act.put, List.setIfInBounds_toArray, List.set_cons_zero, List.set_cons_succ, i64_w, i32_w]
            rfl
           refine pure_ (i := 2) (N := some 59) (v := ?_) (a' := ?_) #[true, true, true, false, false, false, false, false, false, false, false, false] rfl rfl (any_of HT_.out (by kernel_rfl)) (fun _ _ _ h => h) (Or.inl ⟨by rfl, ?_⟩) ?_ ?_
           rotate_left
           ·
            intro w'
            go_simp
            with_reducible rfl
           rotate_left
           ·
            simp only [Act.put, List.setIfInBounds_toArray, List.set_cons_zero, List.set_cons_succ, i64_w, i32_w]
            rfl
           refine pure_ (i := 3) (N := some 60) (v := undef) (a' := ?_) #[true, true, true, true, false, false, false, false, false, false, false, false] rfl rfl (any_of HT_.out (by kernel_rfl)) (fun _ _ _ h => h) (Or.inr ⟨by rfl, rfl⟩) ?_ ?_
           rotate_left
           ·
            simp only [Act.put, List.setIfInBounds_toArray, List.set_cons_zero, List.set_cons_succ, i64_w, i32_w]
            rfl
           refine pure_ (i := 4) (N := some 61) (v := undef) (a' := ?_) #[true, true, true, true, true, false, false, false, false, false, false, false] rfl rfl (any_of HT_.out (by kernel_rfl)) (fun _ _ _ h => h) (Or.inr ⟨by rfl, rfl⟩) ?_ ?_
           rotate_left
           ·
            simp only [Act.put, List.setIfInBounds_toArray, List.set_cons_zero, List.set_cons_succ, i64_w, i32_w]
            rfl
           refine pure_ (i := 5) (N := some 62) (v := undef) (a' := ?_) #[true, true, true, true, true, true, false, false, false, false, false, false] rfl rfl (any_of HT_.out (by kernel_rfl)) (fun _ _ _ h => h) (Or.inr ⟨by rfl, rfl⟩) ?_ ?_
           rotate_left
           ·
            simp only [Act.put, List.setIfInBounds_toArray, List.set_cons_zero, List.set_cons_succ, i64_w, i32_w]
            rfl
           refine pure_ (i := 6) (N := some 63) (v := undef) (a' := ?_) #[true, true, true, true, true, true, true, false, false, false, false, false] rfl rfl (any_of HT_.out (by kernel_rfl)) (fun _ _ _ h => h) (Or.inr ⟨by rfl, rfl⟩) ?_ ?_
           rotate_left
           ·
            simp only [Act.put, List.setIfInBounds_toArray, List.set_cons_zero, List.set_cons_succ, i64_w, i32_w]
            rfl
           refine pure_ (i := 7) (N := some 64) (v := undef) (a' := ?_) #[true, true, true, true, true, true, true, true, false, false, false, false] rfl rfl (any_of HT_.out (by kernel_rfl)) (fun _ _ _ h => h) (Or.inr ⟨by rfl, rfl⟩) ?_ ?_
           rotate_left
           ·
            simp only [Act.put, List.setIfInBounds_toArray, List.set_cons_zero, List.set_cons_succ, i64_w, i32_w]
            rfl
           refine pure_ (i := 8) (N := some 65) (v := undef) (a' := ?_) #[true, true, true, true, true, true, true, true, true, false, false, false] rfl rfl (any_of HT_.out (by kernel_rfl)) (fun _ _ _ h => h) (Or.inr ⟨by rfl, rfl⟩) ?_ ?_
           rotate_left
           ·
            simp only [Act.put, List.setIfInBounds_toArray, List.set_cons_zero, List.set_cons_succ, i64_w, i32_w]
            rfl
           refine pure_ (i := 9) (N := some 66) (v := undef) (a' := ?_) #[true, true, true, true, true, true, true, true, true, true, false, false] rfl rfl (any_of HT_.out (by kernel_rfl)) (fun _ _ _ h => h) (Or.inr ⟨by rfl, rfl⟩) ?_ ?_
           rotate_left
           ·
            simp only [Act.put, List.setIfInBounds_toArray, List.set_cons_zero, List.set_cons_succ, i64_w, i32_w]
            rfl
           refine pure_ (i := 10) (N := some 67) (v := undef) (a' := ?_) #[true, true, true, true, true, true, true, true, true, true, true, false] rfl rfl (any_of HT_.out (by kernel_rfl)) (fun _ _ _ h => h) (Or.inr ⟨by rfl, rfl⟩) ?_ ?_
           rotate_left
           ·
            simp only [Act.put, List.setIfInBounds_toArray, List.set_cons_zero, List.set_cons_succ, i64_w, i32_w]
            rfl
           refine pure_ (i := 11) (N := some 68) (v := ?_) (a' := ?_) #[true, true, true, true, true, true, true, true, true, true, true, true] rfl rfl (any_of HT_.out (by kernel_rfl)) (fun _ _ _ h => h) (Or.inl ⟨by rfl, ?_⟩) ?_ ?_
           rotate_left
           ·
            intro w'
            go_simp
            with_reducible rfl
           rotate_left
           ·
            simp only [Act.put, List.setIfInBounds_toArray, List.set_cons_zero, List.set_cons_succ, i64_w, i32_w]
            rfl
           refine done_ (done_of HT_.out (by kernel_rfl)) ?_
           try go_wp2
           go_ret
           exact ⟨by first | rfl | (simp [errW_none, errW_some] <;> rfl) | (simp [*, errW_none, errW_some] <;> rfl), by repeat (first | (with_reducible first | exact HB.out | apply below_alloc | apply pw_below_drewN | apply below_drew1 | refine below_set ?_ GE172.out | refine below_set ?_ GE173.out | refine below_set ?_ GE175.out) | exact HB.out)⟩
          ·
           rw [if_neg c67] at H
           have c67b0 : decide (x41_2 < 0) = false := decide_eq_false c67
           clear c67
           by_cases c76 : x41_2 < (l1_3.length : Int)
           ·
            rw [if_pos c76] at H
            have c76b0 : decide (x41_2 < (l1_3.length : Int)) = true := decide_eq_true c76
            clear c76
            replace H := Option.bind_eq_some_iff.mp H
            obtain ⟨t181, A770, H⟩ := H
            replace H : (if t181 = true then (spec_Alike.l0 k2 l0_3 (l0_3.length : Int) (wrap64 (x41_2 + 1)) a0_0 a0_1 l0_2 l0_3 a1_0 a1_1 l1_2 l1_3) else (some false)) = some r := H
            have A77 := Aside0.mk A770
            clear A770
            by_cases c78 : t181 = true
            ·
             subst c78
             have H1 : (spec_Alike.l0 k2 l0_3 (l0_3.length : Int) (wrap64 (x41_2 + 1)) a0_0 a0_1 l0_2 l0_3 a1_0 a1_1 l1_2 l1_3) = some r := by rw [if_pos rfl] at H; exact H
             clear H
             have H := H1
             clear H1
             have H' := Aside0.mk H
             clear H
             have p174 : 0 ≤ (x41_2 : Int) := of_decide_eq_true (by first | (with_reducible assumption) | assumption)
             have q174 : x41_2 < (l0_3.length : Int) := of_decide_eq_true (by first | (with_reducible assumption) | assumption)
             obtain ⟨ad174, A174_2, c174_2, A174_3, c174_3, e174, hx174_0, hx174_1, hx174_2, hx174_3, hl174_2, hi174_2, hl174_3, hi174_3⟩ := at_T25 HR0_3.out x41_2 p174 q174
             cases e174
             replace hx174_0 := (HB.out.cell (World.block_lt_of_cell? w _ hx174_0)).trans hx174_0
             replace hx174_1 := (HB.out.cell (World.block_lt_of_cell? w _ hx174_1)).trans hx174_1
             replace hx174_2 := (HB.out.cell (World.block_lt_of_cell? w _ hx174_2)).trans hx174_2
             replace hx174_3 := (HB.out.cell (World.block_lt_of_cell? w _ hx174_3)).trans hx174_3
             have HR174_2 := Aside0.mk hi174_2
             have HC174_2 := Aside0.mk hl174_2
             clear hi174_2 hl174_2
             have HR174_3 := Aside0.mk hi174_3
             have HC174_3 := Aside0.mk hl174_3
             clear hi174_3 hl174_3
             replace p174 := eq_true p174
             replace q174 := eq_true q174
             try go_wp2_with (first | ((with_reducible refine gate_dst (N := 6) rfl ?_); (try (refine gate_guard (by rfl) ?_; dsimp only)); refine box_event ?hg (N := 6) ?hd (cs := #[.int .i64 0, .string (⟨#[]⟩ : ByteArray), .slice none 0 0, .slice none 0 0]) (t := 25) ?hr ?_; (case hd => rfl); (case hg => rfl); (case hr => first | (go_simp; done) | (go_simp; rfl)); intro gb175 hg w79 hbox hb; have n0_ := Aside0.mk (blk_below (g := gb172) (o := .cells #[.int .i64 a0_0, .string a0_1, .slice A0_2 l0_2.length c0_2, .slice (some ad174) l0_3.length c0_3] 25 (0, 0)) (by (with_reducible repeat (first | refine blk_drewN ?_ _ | refine blk_drew ?_ | refine blk_alloc ?_ _)); exact BK172.out) hb); have n1_ := Aside0.mk (blk_below (g := gb173) (o := .cells #[.int .i64 a1_0, .string a1_1, .slice A1_2 l1_2.length c1_2, .slice A1_3 l1_3.length c1_3] 25 (0, 0)) (by (with_reducible repeat (first | refine blk_drewN ?_ _ | refine blk_drew ?_ | refine blk_alloc ?_ _)); exact BK173.out) hb); have n2_ := Aside0.mk (below_step (by repeat (first | (with_reducible first | exact HB.out | apply below_alloc | apply pw_below_drewN | apply below_drew1 | refine below_set ?_ GE172.out | refine below_set ?_ GE173.out) | exact HB.out)) hb); have n3_ := Aside0.mk (hbox); have n4_ := Aside0.mk ((by rw [hg]; exact (below_size (by repeat (first | (with_reducible first | exact HB.out | apply below_alloc | apply pw_below_drewN | apply below_drew1 | refine below_set ?_ GE172.out | refine below_set ?_ GE173.out) | exact HB.out))) : w.heap.size ≤ gb175)); have n5_ := Aside0.mk ((by rw [hg]; exact (below_size (by repeat (first | (with_reducible first | exact HB.out | apply below_alloc | apply pw_below_drewN | apply below_drew1 | refine below_set ?_ GE172.out | refine below_set ?_ GE173.out) | exact HB.out))) : w.heap.size ≤ gb175)); have n6_ := Aside0.mk ((by rw [hg]; exact Nat.ne_of_lt (blk_lt (g := gb172) (o := .cells #[.int .i64 a0_0, .string a0_1, .slice A0_2 l0_2.length c0_2, .slice (some ad174) l0_3.length c0_3] 25 (0, 0)) (by (with_reducible repeat (first | refine blk_drewN ?_ _ | refine blk_drew ?_ | refine blk_alloc ?_ _)); exact BK172.out)) : gb172 ≠ gb175)); have n7_ := Aside0.mk ((by rw [hg]; exact Nat.ne_of_gt (blk_lt (g := gb172) (o := .cells #[.int .i64 a0_0, .string a0_1, .slice A0_2 l0_2.length c0_2, .slice (some ad174) l0_3.length c0_3] 25 (0, 0)) (by (with_reducible repeat (first | refine blk_drewN ?_ _ | refine blk_drew ?_ | refine blk_alloc ?_ _)); exact BK172.out)) : gb175 ≠ gb172)); have n8_ := Aside0.mk ((by rw [hg]; exact Nat.ne_of_lt (blk_lt (g := gb173) (o := .cells #[.int .i64 a1_0, .string a1_1, .slice A1_2 l1_2.length c1_2, .slice A1_3 l1_3.length c1_3] 25 (0, 0)) (by (with_reducible repeat (first | refine blk_drewN ?_ _ | refine blk_drew ?_ | refine blk_alloc ?_ _)); exact BK173.out)) : gb173 ≠ gb175)); have n9_ := Aside0.mk ((by rw [hg]; exact Nat.ne_of_gt (blk_lt (g := gb173) (o := .cells #[.int .i64 a1_0, .string a1_1, .slice A1_2 l1_2.length c1_2, .slice A1_3 l1_3.length c1_3] 25 (0, 0)) (by (with_reducible repeat (first | refine blk_drewN ?_ _ | refine blk_drew ?_ | refine blk_alloc ?_ _)); exact BK173.out)) : gb175 ≠ gb173)); clear BK172; clear BK173; clear HB; have BK172 := n0_; have BK173 := n1_; have HB := n2_; have BK175 := n3_; have GW175 := n4_; have GE175 := n5_; have NB172_175 := n6_; have NB175_172 := n7_; have NB173_175 := n8_; have NB175_173 := n9_; clear n0_ n1_ n2_ n3_ n4_ n5_ n6_ n7_ n8_ n9_; clear hb hbox hg; have hnb80 := NB175_172.out; have hnc80 := NB172_175.out; have hnb81 := NB175_173.out; have hnc81 := NB173_175.out; have hcz82_0 : w79.cell? ⟨gb175, 0, none⟩ = some (.int .i64 0) := (blk_cell BK175.out 0).trans rfl; have hcz82_1 : w79.cell? ⟨gb175, 1, none⟩ = some (.string (⟨#[]⟩ : ByteArray)) := (blk_cell BK175.out 1).trans rfl; have hcz82_2 : w79.cell? ⟨gb175, 2, none⟩ = some (.slice none 0 0) := (blk_cell BK175.out 2).trans rfl; have hcz82_3 : w79.cell? ⟨gb175, 3, none⟩ = some (.slice none 0 0) := (blk_cell BK175.out 3).trans rfl; have hfz82_0 := blk_frozen BK175.out 0; have hfz82_1 := blk_frozen BK175.out 1; have hfz82_2 := blk_frozen BK175.out 2; have hfz82_3 := blk_frozen BK175.out 3; have hnb83 := NB172_173.out; have hnc83 := NB173_172.out; have hcz84_0 : w79.cell? ⟨gb172, 0, none⟩ = some (.int .i64 a0_0) := (blk_cell BK172.out 0).trans rfl; have hcz84_1 : w79.cell? ⟨gb172, 1, none⟩ = some (.string a0_1) := (blk_cell BK172.out 1).trans rfl; have hcz84_2 : w79.cell? ⟨gb172, 2, none⟩ = some (.slice A0_2 l0_2.length c0_2) := (blk_cell BK172.out 2).trans rfl; have hcz84_3 : w79.cell? ⟨gb172, 3, none⟩ = some (.slice (some ad174) l0_3.length c0_3) := (blk_cell BK172.out 3).trans rfl; have hfz84_0 := blk_frozen BK172.out 0; have hfz84_1 := blk_frozen BK172.out 1; have hfz84_2 := blk_frozen BK172.out 2; have hfz84_3 := blk_frozen BK172.out 3))
             have n0_ : Aside0 (((((w79.setCell ⟨gb175, 0, none⟩ (.int .i64 ((rd_T25 l0_3 x41_2).f0))).setCell ⟨gb175, 1, none⟩ (.string ((rd_T25 l0_3 x41_2).f1))).setCell ⟨gb175, 2, none⟩ (.slice A174_2 ((rd_T25 l0_3 x41_2).f2).length c174_2)).setCell ⟨gb175, 3, none⟩ (.slice A174_3 ((rd_T25 l0_3 x41_2).f3).length c174_3)).heap[gb172]? = some (.cells #[.int .i64 a0_0, .string a0_1, .slice A0_2 l0_2.length c0_2, .slice (some ad174) l0_3.length c0_3] 25 (0, 0))) := ⟨by (with_reducible repeat (first | refine blk_drewN ?_ _ | refine blk_drew ?_ | refine blk_alloc ?_ _)); refine blk_far ?_ NB172_175.out _; (with_reducible repeat (first | refine blk_drewN ?_ _ | refine blk_drew ?_ | refine blk_alloc ?_ _)); refine blk_far ?_ NB172_175.out _; (with_reducible repeat (first | refine blk_drewN ?_ _ | refine blk_drew ?_ | refine blk_alloc ?_ _)); refine blk_far ?_ NB172_175.out _; (with_reducible repeat (first | refine blk_drewN ?_ _ | refine blk_drew ?_ | refine blk_alloc ?_ _)); refine blk_far ?_ NB172_175.out _; (with_reducible repeat (first | refine blk_drewN ?_ _ | refine blk_drew ?_ | refine blk_alloc ?_ _)); exact BK172.out⟩
             have n1_ : Aside0 (((((w79.setCell ⟨gb175, 0, none⟩ (.int .i64 ((rd_T25 l0_3 x41_2).f0))).setCell ⟨gb175, 1, none⟩ (.string ((rd_T25 l0_3 x41_2).f1))).setCell ⟨gb175, 2, none⟩ (.slice A174_2 ((rd_T25 l0_3 x41_2).f2).length c174_2)).setCell ⟨gb175, 3, none⟩ (.slice A174_3 ((rd_T25 l0_3 x41_2).f3).length c174_3)).heap[gb173]? = some (.cells #[.int .i64 a1_0, .string a1_1, .slice A1_2 l1_2.length c1_2, .slice A1_3 l1_3.length c1_3] 25 (0, 0))) := ⟨by (with_reducible repeat (first | refine blk_drewN ?_ _ | refine blk_drew ?_ | refine blk_alloc ?_ _)); refine blk_far ?_ NB173_175.out _; (with_reducible repeat (first | refine blk_drewN ?_ _ | refine blk_drew ?_ | refine blk_alloc ?_ _)); refine blk_far ?_ NB173_175.out _; (with_reducible repeat (first | refine blk_drewN ?_ _ | refine blk_drew ?_ | refine blk_alloc ?_ _)); refine blk_far ?_ NB173_175.out _; (with_reducible repeat (first | refine blk_drewN ?_ _ | refine blk_drew ?_ | refine blk_alloc ?_ _)); refine blk_far ?_ NB173_175.out _; (with_reducible repeat (first | refine blk_drewN ?_ _ | refine blk_drew ?_ | refine blk_alloc ?_ _)); exact BK173.out⟩
             have n2_ : Aside0 (((((w79.setCell ⟨gb175, 0, none⟩ (.int .i64 ((rd_T25 l0_3 x41_2).f0))).setCell ⟨gb175, 1, none⟩ (.string ((rd_T25 l0_3 x41_2).f1))).setCell ⟨gb175, 2, none⟩ (.slice A174_2 ((rd_T25 l0_3 x41_2).f2).length c174_2)).setCell ⟨gb175, 3, none⟩ (.slice A174_3 ((rd_T25 l0_3 x41_2).f3).length c174_3)).heap[gb175]? = some (.cells #[.int .i64 ((rd_T25 l0_3 x41_2).f0), .string ((rd_T25 l0_3 x41_2).f1), .slice A174_2 ((rd_T25 l0_3 x41_2).f2).length c174_2, .slice A174_3 ((rd_T25 l0_3 x41_2).f3).length c174_3] 25 (0, 0))) := ⟨by (with_reducible repeat (first | refine blk_drewN ?_ _ | refine blk_drew ?_ | refine blk_alloc ?_ _)); refine blk_put (cs := #[.int .i64 ((rd_T25 l0_3 x41_2).f0), .string ((rd_T25 l0_3 x41_2).f1), .slice A174_2 ((rd_T25 l0_3 x41_2).f2).length c174_2, .slice none 0 0]) ?_ 3 _ rfl; (with_reducible repeat (first | refine blk_drewN ?_ _ | refine blk_drew ?_ | refine blk_alloc ?_ _)); refine blk_put (cs := #[.int .i64 ((rd_T25 l0_3 x41_2).f0), .string ((rd_T25 l0_3 x41_2).f1), .slice none 0 0, .slice none 0 0]) ?_ 2 _ rfl; (with_reducible repeat (first | refine blk_drewN ?_ _ | refine blk_drew ?_ | refine blk_alloc ?_ _)); refine blk_put (cs := #[.int .i64 ((rd_T25 l0_3 x41_2).f0), .string (⟨#[]⟩ : ByteArray), .slice none 0 0, .slice none 0 0]) ?_ 1 _ rfl; (with_reducible repeat (first | refine blk_drewN ?_ _ | refine blk_drew ?_ | refine blk_alloc ?_ _)); refine blk_put (cs := #[.int .i64 0, .string (⟨#[]⟩ : ByteArray), .slice none 0 0, .slice none 0 0]) ?_ 0 _ rfl; (with_reducible repeat (first | refine blk_drewN ?_ _ | refine blk_drew ?_ | refine blk_alloc ?_ _)); exact BK175.out⟩
             have n3_ : Aside0 (Below w.heap.size w ((((w79.setCell ⟨gb175, 0, none⟩ (.int .i64 ((rd_T25 l0_3 x41_2).f0))).setCell ⟨gb175, 1, none⟩ (.string ((rd_T25 l0_3 x41_2).f1))).setCell ⟨gb175, 2, none⟩ (.slice A174_2 ((rd_T25 l0_3 x41_2).f2).length c174_2)).setCell ⟨gb175, 3, none⟩ (.slice A174_3 ((rd_T25 l0_3 x41_2).f3).length c174_3))) := ⟨by repeat (first | (with_reducible first | exact HB.out | apply below_alloc | apply pw_below_drewN | apply below_drew1 | refine below_set ?_ GE172.out | refine below_set ?_ GE173.out | refine below_set ?_ GE175.out) | exact HB.out)⟩
             (try clear BK172)
             (try clear BK173)
             (try clear BK175)
             (try clear HB)
             generalize ((((w79.setCell ⟨gb175, 0, none⟩ (.int .i64 ((rd_T25 l0_3 x41_2).f0))).setCell ⟨gb175, 1, none⟩ (.string ((rd_T25 l0_3 x41_2).f1))).setCell ⟨gb175, 2, none⟩ (.slice A174_2 ((rd_T25 l0_3 x41_2).f2).length c174_2)).setCell ⟨gb175, 3, none⟩ (.slice A174_3 ((rd_T25 l0_3 x41_2).f3).length c174_3)) = w85 at n0_ n1_ n2_ n3_ ⊢
             have BK172 := n0_
             have BK173 := n1_
             have BK175 := n2_
             have HB := n3_
             clear n0_ n1_ n2_ n3_
             have n0_ := Aside0.mk (blk_drew BK172.out)
             have n1_ := Aside0.mk (blk_drew BK173.out)
             have n2_ := Aside0.mk (blk_drew BK175.out)
             have n3_ := Aside0.mk (below_drew1 HB.out)
             clear BK172
             clear BK173
             clear BK175
             clear HB
             have BK172 := n0_
             have BK173 := n1_
             have BK175 := n2_
             have HB := n3_
             clear n0_ n1_ n2_ n3_
             have p180 : 0 ≤ (x41_2 : Int) := of_decide_eq_true (by first | (with_reducible assumption) | assumption)
             have q180 : x41_2 < (l1_3.length : Int) := of_decide_eq_true (by first | (with_reducible assumption) | assumption)
             obtain ⟨ad180, A180_2, c180_2, A180_3, c180_3, e180, hx180_0, hx180_1, hx180_2, hx180_3, hl180_2, hi180_2, hl180_3, hi180_3⟩ := at_T25 HR1_3.out x41_2 p180 q180
             have hw180_3 := hx180_3
             have hw180_2 := hx180_2
             have hw180_1 := hx180_1
             have hw180_0 := hx180_0
             cases e180
             replace hx180_0 := (HB.out.cell (World.block_lt_of_cell? w _ hx180_0)).trans hx180_0
             replace hx180_1 := (HB.out.cell (World.block_lt_of_cell? w _ hx180_1)).trans hx180_1
             replace hx180_2 := (HB.out.cell (World.block_lt_of_cell? w _ hx180_2)).trans hx180_2
             replace hx180_3 := (HB.out.cell (World.block_lt_of_cell? w _ hx180_3)).trans hx180_3
             have HR180_2 := Aside0.mk hi180_2
             have HC180_2 := Aside0.mk hl180_2
             clear hi180_2 hl180_2
             have HR180_3 := Aside0.mk hi180_3
             have HC180_3 := Aside0.mk hl180_3
             clear hi180_3 hl180_3
             replace p180 := eq_true p180
             replace q180 := eq_true q180
             refine start_ (n := 12) (S := fun w' => w'.cell? ⟨gb175, 0, none⟩ = some (.int .i64 ((rd_T25 l0_3 x41_2).f0)) ∧ w'.cell? ⟨gb175, 1, none⟩ = some (.string ((rd_T25 l0_3 x41_2).f1)) ∧ w'.cell? ⟨gb175, 2, none⟩ = some (.slice A174_2 ((rd_T25 l0_3 x41_2).f2).length c174_2) ∧ w'.cell? ⟨gb175, 3, none⟩ = some (.slice A174_3 ((rd_T25 l0_3 x41_2).f3).length c174_3) ∧ w'.cell? ⟨gb173, 0, none⟩ = some (.int .i64 a1_0) ∧ w'.cell? ⟨gb173, 1, none⟩ = some (.string a1_1) ∧ w'.cell? ⟨gb173, 2, none⟩ = some (.slice A1_2 l1_2.length c1_2) ∧ w'.cell? ⟨gb173, 3, none⟩ = some (.slice (some ad180) l1_3.length c1_3) ∧ w'.cell? (ad180.add ((x41_2).toNat * 4)) = some (.int .i64 ((rd_T25 l1_3 x41_2).f0)) ∧ w'.cell? ⟨(ad180.add ((x41_2).toNat * 4)).block, (ad180.add ((x41_2).toNat * 4)).off + 1, none⟩ = some (.string ((rd_T25 l1_3 x41_2).f1)) ∧ w'.cell? ⟨(ad180.add ((x41_2).toNat * 4)).block, (ad180.add ((x41_2).toNat * 4)).off + 2, none⟩ = some (.slice A180_2 ((rd_T25 l1_3 x41_2).f2).length c180_2) ∧ w'.cell? ⟨(ad180.add ((x41_2).toNat * 4)).block, (ad180.add ((x41_2).toNat * 4)).off + 3, none⟩ = some (.slice A180_3 ((rd_T25 l1_3 x41_2).f3).length c180_3)) (ds := []) #[false, false, false, false, false, false, false, false, false, false, false, false] (by kernel_rfl) rfl rfl ⟨(blk_cell BK175.out 0).trans rfl, (blk_cell BK175.out 1).trans rfl, (blk_cell BK175.out 2).trans rfl, (blk_cell BK175.out 3).trans rfl, (blk_cell BK173.out 0).trans rfl, (blk_cell BK173.out 1).trans rfl, (blk_cell BK173.out 2).trans rfl, (blk_cell BK173.out 3).trans rfl, ((HB.out.cell (World.block_lt_of_cell? w _ hw180_0)).trans hw180_0), ((HB.out.cell (World.block_lt_of_cell? w _ hw180_1)).trans hw180_1), ((HB.out.cell (World.block_lt_of_cell? w _ hw180_2)).trans hw180_2), ((HB.out.cell (World.block_lt_of_cell? w _ hw180_3)).trans hw180_3)⟩ (fun hHeld => ?_); refine with_tabW spec_Alike.tab9 spec_Alike.bits9 (fun HT_ HW_ => ?_)
             generalize w85.drew = w86 at BK172 BK173 BK175 HB HR180_2 HR180_3 hx180_0 hx180_1 hx180_2 hx180_3 hHeld ⊢
             refine pure_ (i := 0) (N := some 57) (v := ?_) (a' := ?_) #[true, false, false, false, false, false, false, false, false, false, false, false] rfl rfl (any_of HT_.out (by kernel_rfl)) (fun _ _ _ h => h) (Or.inl ⟨by rfl, ?_⟩) ?_ ?_
             rotate_left
             ·
              intro w'
              go_simp
              with_reducible rfl
             rotate_left
             ·
              simp only [Act.put, List.setIfInBounds_toArray, List.set_cons_zero, List.set_cons_succ, i64_w, i32_w]
              rfl
             refine pure_ (i := 1) (N := some 58) (v := ?_) (a' := ?_) #[true, true, false, false, false, false, false, false, false, false, false, false] rfl rfl (any_of HT_.out (by kernel_rfl)) (fun _ _ _ h => h) (Or.inl ⟨by rfl, ?_⟩) ?_ ?_
             rotate_left
             ·
              intro w'
              go_simp
              with_reducible rfl
             rotate_left
             ·
              simp only [Act.put, List.setIfInBounds_toArray, List.set_cons_zero, List.set_cons_succ, i64_w, i32_w]
              rfl
             refine pure_ (i := 2) (N := some 59) (v := ?_) (a' := ?_) #[true, true, true, false, false, false, false, false, false, false, false, false] rfl rfl (any_of HT_.out (by kernel_rfl)) (fun _ _ _ h => h) (Or.inl ⟨by rfl, ?_⟩) ?_ ?_
             rotate_left
             ·
              intro w'
              go_simp
              with_reducible rfl
             rotate_left
             ·
              simp only [Act.put, List.setIfInBounds_toArray, List.set_cons_zero, List.set_cons_succ, i64_w, i32_w]
              rfl
             refine pure_ (i := 4) (N := some 61) (v := ?_) (a' := ?_) #[true, true, true, false, true, false, false, false, false, false, false, false] rfl rfl (any_of HT_.out (by kernel_rfl)) (fun _ _ _ h => h) (Or.inl ⟨by rfl, ?_⟩) ?_ ?_
             rotate_left
             ·
              intro w'
              go_simp
              with_reducible rfl
             rotate_left
             ·
              simp only [Act.put, List.setIfInBounds_toArray, List.set_cons_zero, List.set_cons_succ, i64_w, i32_w]
              rfl
             refine pure_ (i := 6) (N := some 63) (v := ?_) (a' := ?_) #[true, true, true, false, true, false, true, false, false, false, false, false] rfl rfl (any_of HT_.out (by kernel_rfl)) (fun _ _ _ h => h) (Or.inl ⟨by rfl, ?_⟩) ?_ ?_
             rotate_left
             ·
              intro w'
              go_simp
              with_reducible rfl
             rotate_left
             ·
              simp only [Act.put, List.setIfInBounds_toArray, List.set_cons_zero, List.set_cons_succ, i64_w, i32_w]
              rfl
             refine take_ (i := 3) (N := some 60) (v := ?_) (a' := ?_) #[true, true, true, true, true, false, true, false, false, false, false, false] rfl rfl (take_ofW HT_.out HW_.out (by kernel_rfl)) (fun _ _ _ h => h) (Or.inl ⟨by rfl, ?_⟩) hHeld ?_ ?_
             rotate_left
             ·
              rintro w' ⟨s0, s1, s2, s3, s4, s5, s6, s7, s8, s9, s10, s11⟩
              go_simp
              with_reducible rfl
             rotate_left
             ·
              simp only [Act.put, List.setIfInBounds_toArray, List.set_cons_zero, List.set_cons_succ, i64_w, i32_w]
              rfl
             refine take_ (i := 5) (N := some 62) (v := ?_) (a' := ?_) #[true, true, true, true, true, true, true, false, false, false, false, false] rfl rfl (take_ofW HT_.out HW_.out (by kernel_rfl)) (fun _ _ _ h => h) (Or.inl ⟨by rfl, ?_⟩) hHeld ?_ ?_
             rotate_left
             ·
              rintro w' ⟨s0, s1, s2, s3, s4, s5, s6, s7, s8, s9, s10, s11⟩
              go_simp
              with_reducible rfl
             rotate_left
             ·
              simp only [Act.put, List.setIfInBounds_toArray, List.set_cons_zero, List.set_cons_succ, i64_w, i32_w]
              rfl
             refine pure_ (i := 7) (N := some 64) (v := ?_) (a' := ?_) #[true, true, true, true, true, true, true, true, false, false, false, false] rfl rfl (any_of HT_.out (by kernel_rfl)) (fun _ _ _ h => h) (Or.inl ⟨by rfl, ?_⟩) ?_ ?_
             rotate_left
             ·
              intro w'
              go_simp
              with_reducible rfl
             rotate_left
             ·
              simp only [Act.put, List.setIfInBounds_toArray, List.set_cons_zero, List.set_cons_succ, i64_w, i32_w]
              rfl
             refine take_ (i := 8) (N := some 65) (v := ?_) (a' := ?_) #[true, true, true, true, true, true, true, true, true, false, false, false] rfl rfl (take_ofW HT_.out HW_.out (by kernel_rfl)) (fun _ _ _ h => h) (Or.inl ⟨by rfl, ?_⟩) hHeld ?_ ?_
             rotate_left
             ·
              rintro w' ⟨s0, s1, s2, s3, s4, s5, s6, s7, s8, s9, s10, s11⟩
              go_simp
              with_reducible rfl
             rotate_left
             ·
              simp only [Act.put, List.setIfInBounds_toArray, List.set_cons_zero, List.set_cons_succ, i64_w, i32_w]
              rfl
             refine one_ (i := 9) (N := some 66) #[true, true, true, true, true, true, true, true, true, true, false, false] rfl rfl (one_of HT_.out (by kernel_rfl)) (by decide) (fun K hK => ?_)
             refine goes_ Tryd.func8 (by kernel_rfl) rfl #[.agg #[.int .i64 ((rd_T25 l0_3 x41_2).f0), .string ((rd_T25 l0_3 x41_2).f1), .slice A174_2 ((rd_T25 l0_3 x41_2).f2).length c174_2, .slice A174_3 ((rd_T25 l0_3 x41_2).f3).length c174_3], .agg #[.int .i64 ((rd_T25 l1_3 x41_2).f0), .string ((rd_T25 l1_3 x41_2).f1), .slice A180_2 ((rd_T25 l1_3 x41_2).f2).length c180_2, .slice A180_3 ((rd_T25 l1_3 x41_2).f3).length c180_3]] (by rfl) rfl rfl (by (try simp only [List.map_toArray, List.map_cons, List.map_nil]); first | done | rfl | (simp only [List.length_drop, List.length_take]; rfl)) ?_
             with_reducible refine (ih k2 (by have := HJ2.out; have := HK2.out; omega) ((rd_T25 l0_3 x41_2).f0) ((rd_T25 l0_3 x41_2).f1) _ _ ((rd_T25 l0_3 x41_2).f2) _ _ ((rd_T25 l0_3 x41_2).f3) ((rd_T25 l1_3 x41_2).f0) ((rd_T25 l1_3 x41_2).f1) _ _ ((rd_T25 l1_3 x41_2).f2) _ _ ((rd_T25 l1_3 x41_2).f3) true _ ?side1 ?side2 ?side3 ?side4 ?side5 ?side6 ?side7 ?side8 A77.out).mono ?_
             (case side1 => repeat (first | exact (Kd.C_below HR174_2.out HB.out) | (with_reducible refine Kd.C_alloc ?_ _) | (with_reducible refine Kd.C_drewN ?_ _) | (with_reducible refine Kd.C_drew ?_)))
             (case side2 => exact HC174_2.out)
             (case side3 => repeat (first | exact (Kd.C_below HR174_3.out HB.out) | (with_reducible refine Kd.C_alloc ?_ _) | (with_reducible refine Kd.C_drewN ?_ _) | (with_reducible refine Kd.C_drew ?_)))
             (case side4 => exact HC174_3.out)
             (case side5 => repeat (first | exact (Kd.C_below HR180_2.out HB.out) | (with_reducible refine Kd.C_alloc ?_ _) | (with_reducible refine Kd.C_drewN ?_ _) | (with_reducible refine Kd.C_drew ?_)))
             (case side6 => exact HC180_2.out)
             (case side7 => repeat (first | exact (Kd.C_below HR180_3.out HB.out) | (with_reducible refine Kd.C_alloc ?_ _) | (with_reducible refine Kd.C_drewN ?_ _) | (with_reducible refine Kd.C_drew ?_)))
             (case side8 => exact HC180_3.out)
             rintro e w87 ⟨rfl, hb⟩
             refine ⟨_, rfl, ?_⟩
             have n0_ := Aside0.mk (blk_below (g := gb172) (o := .cells #[.int .i64 a0_0, .string a0_1, .slice A0_2 l0_2.length c0_2, .slice (some ad174) l0_3.length c0_3] 25 (0, 0)) (by (with_reducible repeat (first | refine blk_drewN ?_ _ | refine blk_drew ?_ | refine blk_alloc ?_ _)); exact BK172.out) hb)
             have n1_ := Aside0.mk (blk_below (g := gb173) (o := .cells #[.int .i64 a1_0, .string a1_1, .slice A1_2 l1_2.length c1_2, .slice (some ad180) l1_3.length c1_3] 25 (0, 0)) (by (with_reducible repeat (first | refine blk_drewN ?_ _ | refine blk_drew ?_ | refine blk_alloc ?_ _)); exact BK173.out) hb)
             have n2_ := Aside0.mk (blk_below (g := gb175) (o := .cells #[.int .i64 ((rd_T25 l0_3 x41_2).f0), .string ((rd_T25 l0_3 x41_2).f1), .slice A174_2 ((rd_T25 l0_3 x41_2).f2).length c174_2, .slice A174_3 ((rd_T25 l0_3 x41_2).f3).length c174_3] 25 (0, 0)) (by (with_reducible repeat (first | refine blk_drewN ?_ _ | refine blk_drew ?_ | refine blk_alloc ?_ _)); exact BK175.out) hb)
             have n3_ := Aside0.mk (below_step (by repeat (first | (with_reducible first | exact HB.out | apply below_alloc | apply pw_below_drewN | apply below_drew1 | refine below_set ?_ GE172.out | refine below_set ?_ GE173.out | refine below_set ?_ GE175.out) | exact HB.out)) hb)
             clear BK172
             clear BK173
             clear BK175
             clear HB
             have BK172 := n0_
             have BK173 := n1_
             have BK175 := n2_
             have HB := n3_
             clear n0_ n1_ n2_ n3_
             (try clear hb)
             (try clear hb2)
             (try clear hk)
             (try clear hi)
             refine hK.out _ _ ⟨(blk_cell BK175.out 0).trans rfl, (blk_cell BK175.out 1).trans rfl, (blk_cell BK175.out 2).trans rfl, (blk_cell BK175.out 3).trans rfl, (blk_cell BK173.out 0).trans rfl, (blk_cell BK173.out 1).trans rfl, (blk_cell BK173.out 2).trans rfl, (blk_cell BK173.out 3).trans rfl, ((HB.out.cell (World.block_lt_of_cell? w _ hw180_0)).trans hw180_0), ((HB.out.cell (World.block_lt_of_cell? w _ hw180_1)).trans hw180_1), ((HB.out.cell (World.block_lt_of_cell? w _ hw180_2)).trans hw180_2), ((HB.out.cell (World.block_lt_of_cell? w _ hw180_3)).trans hw180_3)⟩ (fun hHeld => ?_)
             clear hK K
             refine norm_ (a' := ?_) ?_ ?_
             rotate_left
             ·
              show Act.put _ (some 66) _ = _
              simp only [Act.put, List.setIfInBounds_toArray, List.set_cons_zero, List.set_cons_succ, i64_w, i32_w]
              rfl
             refine pure_ (i := 10) (N := some 67) (v := ?_) (a' := ?_) #[true, true, true, true, true, true, true, true, true, true, true, false] rfl rfl (any_of HT_.out (by kernel_rfl)) (fun _ _ _ h => h) (Or.inl ⟨by rfl, ?_⟩) ?_ ?_
             rotate_left
             ·
              intro w'
              go_simp
              with_reducible rfl
             rotate_left
             ·
              simp only [Act.put, List.setIfInBounds_toArray, List.set_cons_zero, List.set_cons_succ, i64_w, i32_w]
              rfl
             refine pure_ (i := 11) (N := some 68) (v := ?_) (a' := ?_) #[true, true, true, true, true, true, true, true, true, true, true, true] rfl rfl (any_of HT_.out (by kernel_rfl)) (fun _ _ _ h => h) (Or.inl ⟨by rfl, ?_⟩) ?_ ?_
             rotate_left
             ·
              intro w'
              go_simp
              with_reducible rfl
             rotate_left
             ·
              simp only [Act.put, List.setIfInBounds_toArray, List.set_cons_zero, List.set_cons_succ, i64_w, i32_w]
              rfl
             refine done_ (done_of HT_.out (by kernel_rfl)) ?_
             try go_wp2
             go_roundg k2
             case measure => have := HJ2.out; have := HK2.out; omega
             case rel => exact ⟨(wrap64 (x41_2 + 1)), (by first | rfl | (simp; done) | (simp [*]; done) | (simp; rw [Bool.eq_iff_iff]; simp; done)), H', ⟨by have := HJ2.out; have := HK2.out; omega⟩, ⟨by (with_reducible repeat (first | refine blk_drewN ?_ _ | refine blk_drew ?_ | refine blk_alloc ?_ _)); exact BK172.out⟩, ⟨by (with_reducible repeat (first | refine blk_drewN ?_ _ | refine blk_drew ?_ | refine blk_alloc ?_ _)); exact BK173.out⟩, ⟨by repeat (first | (with_reducible first | exact HB.out | apply below_alloc | apply pw_below_drewN | apply below_drew1 | refine below_set ?_ GE172.out | refine below_set ?_ GE173.out | refine below_set ?_ GE175.out) | exact HB.out)⟩⟩
            ·
             replace c78 := Bool.eq_false_iff.mpr c78
             subst c78
             have H1 : (some false) = some r := by rw [if_neg (show ¬ (false = true) by decide)] at H; exact H
             clear H
             have H := H1
             clear H1
             obtain rfl := Option.some.inj H
             have p174 : 0 ≤ (x41_2 : Int) := of_decide_eq_true (by first | (with_reducible assumption) | assumption)
             have q174 : x41_2 < (l0_3.length : Int) := of_decide_eq_true (by first | (with_reducible assumption) | assumption)
             obtain ⟨ad174, A174_2, c174_2, A174_3, c174_3, e174, hx174_0, hx174_1, hx174_2, hx174_3, hl174_2, hi174_2, hl174_3, hi174_3⟩ := at_T25 HR0_3.out x41_2 p174 q174
             cases e174
             replace hx174_0 := (HB.out.cell (World.block_lt_of_cell? w _ hx174_0)).trans hx174_0
             replace hx174_1 := (HB.out.cell (World.block_lt_of_cell? w _ hx174_1)).trans hx174_1
             replace hx174_2 := (HB.out.cell (World.block_lt_of_cell? w _ hx174_2)).trans hx174_2
             replace hx174_3 := (HB.out.cell (World.block_lt_of_cell? w _ hx174_3)).trans hx174_3
             have HR174_2 := Aside0.mk hi174_2
             have HC174_2 := Aside0.mk hl174_2
             clear hi174_2 hl174_2
             have HR174_3 := Aside0.mk hi174_3
             have HC174_3 := Aside0.mk hl174_3
             clear hi174_3 hl174_3
             replace p174 := eq_true p174
             replace q174 := eq_true q174
             try go_wp2_with (first | ((with_reducible refine gate_dst (N := 6) rfl ?_); (try (refine gate_guard (by rfl) ?_; dsimp only)); refine box_event ?hg (N := 6) ?hd (cs := #[.int .i64 0, .string (⟨#[]⟩ : ByteArray), .slice none 0 0, .slice none 0 0]) (t := 25) ?hr ?_; (case hd => rfl); (case hg => rfl); (case hr => first | (go_simp; done) | (go_simp; rfl)); intro gb175 hg w88 hbox hb; have n0_ := Aside0.mk (blk_below (g := gb172) (o := .cells #[.int .i64 a0_0, .string a0_1, .slice A0_2 l0_2.length c0_2, .slice (some ad174) l0_3.length c0_3] 25 (0, 0)) (by (with_reducible repeat (first | refine blk_drewN ?_ _ | refine blk_drew ?_ | refine blk_alloc ?_ _)); exact BK172.out) hb); have n1_ := Aside0.mk (blk_below (g := gb173) (o := .cells #[.int .i64 a1_0, .string a1_1, .slice A1_2 l1_2.length c1_2, .slice A1_3 l1_3.length c1_3] 25 (0, 0)) (by (with_reducible repeat (first | refine blk_drewN ?_ _ | refine blk_drew ?_ | refine blk_alloc ?_ _)); exact BK173.out) hb); have n2_ := Aside0.mk (below_step (by repeat (first | (with_reducible first | exact HB.out | apply below_alloc | apply pw_below_drewN | apply below_drew1 | refine below_set ?_ GE172.out | refine below_set ?_ GE173.out) | exact HB.out)) hb); have n3_ := Aside0.mk (hbox); have n4_ := Aside0.mk ((by rw [hg]; exact (below_size (by repeat (first | (with_reducible first | exact HB.out | apply below_alloc | apply pw_below_drewN | apply below_drew1 | refine below_set ?_ GE172.out | refine below_set ?_ GE173.out) | exact HB.out))) : w.heap.size ≤ gb175)); have n5_ := Aside0.mk ((by rw [hg]; exact (below_size (by repeat (first | (with_reducible first | exact HB.out | apply below_alloc | apply pw_below_drewN | apply below_drew1 | refine below_set ?_ GE172.out | refine below_set ?_ GE173.out) | exact HB.out))) : w.heap.size ≤ gb175)); have n6_ := Aside0.mk ((by rw [hg]; exact Nat.ne_of_lt (blk_lt (g := gb172) (o := .cells #[.int .i64 a0_0, .string a0_1, .slice A0_2 l0_2.length c0_2, .slice (some ad174) l0_3.length c0_3] 25 (0, 0)) (by (with_reducible repeat (first | refine blk_drewN ?_ _ | refine blk_drew ?_ | refine blk_alloc ?_ _)); exact BK172.out)) : gb172 ≠ gb175)); have n7_ := Aside0.mk ((by rw [hg]; exact Nat.ne_of_gt (blk_lt (g := gb172) (o := .cells #[.int .i64 a0_0, .string a0_1, .slice A0_2 l0_2.length c0_2, .slice (some ad174) l0_3.length c0_3] 25 (0, 0)) (by (with_reducible repeat (first | refine blk_drewN ?_ _ | refine blk_drew ?_ | refine blk_alloc ?_ _)); exact BK172.out)) : gb175 ≠ gb172)); have n8_ := Aside0.mk ((by rw [hg]; exact Nat.ne_of_lt (blk_lt (g := gb173) (o := .cells #[.int .i64 a1_0, .string a1_1, .slice A1_2 l1_2.length c1_2, .slice A1_3 l1_3.length c1_3] 25 (0, 0)) (by (with_reducible repeat (first | refine blk_drewN ?_ _ | refine blk_drew ?_ | refine blk_alloc ?_ _)); exact BK173.out)) : gb173 ≠ gb175)); have n9_ := Aside0.mk ((by rw [hg]; exact Nat.ne_of_gt (blk_lt (g := gb173) (o := .cells #[.int .i64 a1_0, .string a1_1, .slice A1_2 l1_2.length c1_2, .slice A1_3 l1_3.length c1_3] 25 (0, 0)) (by (with_reducible repeat (first | refine blk_drewN ?_ _ | refine blk_drew ?_ | refine blk_alloc ?_ _)); exact BK173.out)) : gb175 ≠ gb173)); clear BK172; clear BK173; clear HB; have BK172 := n0_; have BK173 := n1_; have HB := n2_; have BK175 := n3_; have GW175 := n4_; have GE175 := n5_; have NB172_175 := n6_; have NB175_172 := n7_; have NB173_175 := n8_; have NB175_173 := n9_; clear n0_ n1_ n2_ n3_ n4_ n5_ n6_ n7_ n8_ n9_; clear hb hbox hg; have hnb89 := NB175_172.out; have hnc89 := NB172_175.out; have hnb90 := NB175_173.out; have hnc90 := NB173_175.out; have hcz91_0 : w88.cell? ⟨gb175, 0, none⟩ = some (.int .i64 0) := (blk_cell BK175.out 0).trans rfl; have hcz91_1 : w88.cell? ⟨gb175, 1, none⟩ = some (.string (⟨#[]⟩ : ByteArray)) := (blk_cell BK175.out 1).trans rfl; have hcz91_2 : w88.cell? ⟨gb175, 2, none⟩ = some (.slice none 0 0) := (blk_cell BK175.out 2).trans rfl; have hcz91_3 : w88.cell? ⟨gb175, 3, none⟩ = some (.slice none 0 0) := (blk_cell BK175.out 3).trans rfl; have hfz91_0 := blk_frozen BK175.out 0; have hfz91_1 := blk_frozen BK175.out 1; have hfz91_2 := blk_frozen BK175.out 2; have hfz91_3 := blk_frozen BK175.out 3; have hnb92 := NB172_173.out; have hnc92 := NB173_172.out; have hcz93_0 : w88.cell? ⟨gb172, 0, none⟩ = some (.int .i64 a0_0) := (blk_cell BK172.out 0).trans rfl; have hcz93_1 : w88.cell? ⟨gb172, 1, none⟩ = some (.string a0_1) := (blk_cell BK172.out 1).trans rfl; have hcz93_2 : w88.cell? ⟨gb172, 2, none⟩ = some (.slice A0_2 l0_2.length c0_2) := (blk_cell BK172.out 2).trans rfl; have hcz93_3 : w88.cell? ⟨gb172, 3, none⟩ = some (.slice (some ad174) l0_3.length c0_3) := (blk_cell BK172.out 3).trans rfl; have hfz93_0 := blk_frozen BK172.out 0; have hfz93_1 := blk_frozen BK172.out 1; have hfz93_2 := blk_frozen BK172.out 2; have hfz93_3 := blk_frozen BK172.out 3))
             have n0_ : Aside0 (((((w88.setCell ⟨gb175, 0, none⟩ (.int .i64 ((rd_T25 l0_3 x41_2).f0))).setCell ⟨gb175, 1, none⟩ (.string ((rd_T25 l0_3 x41_2).f1))).setCell ⟨gb175, 2, none⟩ (.slice A174_2 ((rd_T25 l0_3 x41_2).f2).length c174_2)).setCell ⟨gb175, 3, none⟩ (.slice A174_3 ((rd_T25 l0_3 x41_2).f3).length c174_3)).heap[gb172]? = some (.cells #[.int .i64 a0_0, .string a0_1, .slice A0_2 l0_2.length c0_2, .slice (some ad174) l0_3.length c0_3] 25 (0, 0))) := ⟨by (with_reducible repeat (first | refine blk_drewN ?_ _ | refine blk_drew ?_ | refine blk_alloc ?_ _)); refine blk_far ?_ NB172_175.out _; (with_reducible repeat (first | refine blk_drewN ?_ _ | refine blk_drew ?_ | refine blk_alloc ?_ _)); refine blk_far ?_ NB172_175.out _; (with_reducible repeat (first | refine blk_drewN ?_ _ | refine blk_drew ?_ | refine blk_alloc ?_ _)); refine blk_far ?_ NB172_175.out _; (with_reducible repeat (first | refine blk_drewN ?_ _ | refine blk_drew ?_ | refine blk_alloc ?_ _)); refine blk_far ?_ NB172_175.out _; (with_reducible repeat (first | refine blk_drewN ?_ _ | refine blk_drew ?_ | refine blk_alloc ?_ _)); exact BK172.out⟩
             have n1_ : Aside0 (((((w88.setCell ⟨gb175, 0, none⟩ (.int .i64 ((rd_T25 l0_3 x41_2).f0))).setCell ⟨gb175, 1, none⟩ (.string ((rd_T25 l0_3 x41_2).f1))).setCell ⟨gb175, 2, none⟩ (.slice A174_2 ((rd_T25 l0_3 x41_2).f2).length c174_2)).setCell ⟨gb175, 3, none⟩ (.slice A174_3 ((rd_T25 l0_3 x41_2).f3).length c174_3)).heap[gb173]? = some (.cells #[.int .i64 a1_0, .string a1_1, .slice A1_2 l1_2.length c1_2, .slice A1_3 l1_3.length c1_3] 25 (0, 0))) := ⟨by (with_reducible repeat (first | refine blk_drewN ?_ _ | refine blk_drew ?_ | refine blk_alloc ?_ _)); refine blk_far ?_ NB173_175.out _; (with_reducible repeat (first | refine blk_drewN ?_ _ | refine blk_drew ?_ | refine blk_alloc ?_ _)); refine blk_far ?_ NB173_175.out _; (with_reducible repeat (first | refine blk_drewN ?_ _ | refine blk_drew ?_ | refine blk_alloc ?_ _)); refine blk_far ?_ NB173_175.out _; (with_reducible repeat (first | refine blk_drewN ?_ _ | refine blk_drew ?_ | refine blk_alloc ?_ _)); refine blk_far ?_ NB173_175.out _; (with_reducible repeat (first | refine blk_drewN ?_ _ | refine blk_drew ?_ | refine blk_alloc ?_ _)); exact BK173.out⟩
             have n2_ : Aside0 (((((w88.setCell ⟨gb175, 0, none⟩ (.int .i64 ((rd_T25 l0_3 x41_2).f0))).setCell ⟨gb175, 1, none⟩ (.string ((rd_T25 l0_3 x41_2).f1))).setCell ⟨gb175, 2, none⟩ (.slice A174_2 ((rd_T25 l0_3 x41_2).f2).length c174_2)).setCell ⟨gb175, 3, none⟩ (.slice A174_3 ((rd_T25 l0_3 x41_2).f3).length c174_3)).heap[gb175]? = some (.cells #[.int .i64 ((rd_T25 l0_3 x41_2).f0), .string ((rd_T25 l0_3 x41_2).f1), .slice A174_2 ((rd_T25 l0_3 x41_2).f2).length c174_2, .slice A174_3 ((rd_T25 l0_3 x41_2).f3).length c174_3] 25 (0, 0))) := ⟨by (with_reducible repeat (first | refine blk_drewN ?_ _ | refine blk_drew ?_ | refine blk_alloc ?_ _)); refine blk_put (cs := #[.int .i64 ((rd_T25 l0_3 x41_2).f0), .string ((rd_T25 l0_3 x41_2).f1), .slice A174_2 ((rd_T25 l0_3 x41_2).f2).length c174_2, .slice none 0 0]) ?_ 3 _ rfl; (with_reducible repeat (first | refine blk_drewN ?_ _ | refine blk_drew ?_ | refine blk_alloc ?_ _)); refine blk_put (cs := #[.int .i64 ((rd_T25 l0_3 x41_2).f0), .string ((rd_T25 l0_3 x41_2).f1), .slice none 0 0, .slice none 0 0]) ?_ 2 _ rfl; (with_reducible repeat (first | refine blk_drewN ?_ _ | refine blk_drew ?_ | refine blk_alloc ?_ _)); refine blk_put (cs := #[.int .i64 ((rd_T25 l0_3 x41_2).f0), .string (⟨#[]⟩ : ByteArray), .slice none 0 0, .slice none 0 0]) ?_ 1 _ rfl; (with_reducible repeat (first | refine blk_drewN ?_ _ | refine blk_drew ?_ | refine blk_alloc ?_ _)); refine blk_put (cs := #[.int .i64 0, .string (⟨#[]⟩ : ByteArray), .slice none 0 0, .slice none 0 0]) ?_ 0 _ rfl; (with_reducible repeat (first | refine blk_drewN ?_ _ | refine blk_drew ?_ | refine blk_alloc ?_ _)); exact BK175.out⟩
             have n3_ : Aside0 (Below w.heap.size w ((((w88.setCell ⟨gb175, 0, none⟩ (.int .i64 ((rd_T25 l0_3 x41_2).f0))).setCell ⟨gb175, 1, none⟩ (.string ((rd_T25 l0_3 x41_2).f1))).setCell ⟨gb175, 2, none⟩ (.slice A174_2 ((rd_T25 l0_3 x41_2).f2).length c174_2)).setCell ⟨gb175, 3, none⟩ (.slice A174_3 ((rd_T25 l0_3 x41_2).f3).length c174_3))) := ⟨by repeat (first | (with_reducible first | exact HB.out | apply below_alloc | apply pw_below_drewN | apply below_drew1 | refine below_set ?_ GE172.out | refine below_set ?_ GE173.out | refine below_set ?_ GE175.out) | exact HB.out)⟩
             (try clear BK172)
             (try clear BK173)
             (try clear BK175)
             (try clear HB)
             generalize ((((w88.setCell ⟨gb175, 0, none⟩ (.int .i64 ((rd_T25 l0_3 x41_2).f0))).setCell ⟨gb175, 1, none⟩ (.string ((rd_T25 l0_3 x41_2).f1))).setCell ⟨gb175, 2, none⟩ (.slice A174_2 ((rd_T25 l0_3 x41_2).f2).length c174_2)).setCell ⟨gb175, 3, none⟩ (.slice A174_3 ((rd_T25 l0_3 x41_2).f3).length c174_3)) = w94 at n0_ n1_ n2_ n3_ ⊢
             have BK172 := n0_
             have BK173 := n1_
             have BK175 := n2_
             have HB := n3_
             clear n0_ n1_ n2_ n3_
             have n0_ := Aside0.mk (blk_drew BK172.out)
             have n1_ := Aside0.mk (blk_drew BK173.out)
             have n2_ := Aside0.mk (blk_drew BK175.out)
             have n3_ := Aside0.mk (below_drew1 HB.out)
             clear BK172
             clear BK173
             clear BK175
             clear HB
             have BK172 := n0_
             have BK173 := n1_
             have BK175 := n2_
             have HB := n3_
             clear n0_ n1_ n2_ n3_
             have p180 : 0 ≤ (x41_2 : Int) := of_decide_eq_true (by first | (with_reducible assumption) | assumption)
             have q180 : x41_2 < (l1_3.length : Int) := of_decide_eq_true (by first | (with_reducible assumption) | assumption)
             obtain ⟨ad180, A180_2, c180_2, A180_3, c180_3, e180, hx180_0, hx180_1, hx180_2, hx180_3, hl180_2, hi180_2, hl180_3, hi180_3⟩ := at_T25 HR1_3.out x41_2 p180 q180
             have hw180_3 := hx180_3
             have hw180_2 := hx180_2
             have hw180_1 := hx180_1
             have hw180_0 := hx180_0
             cases e180
             replace hx180_0 := (HB.out.cell (World.block_lt_of_cell? w _ hx180_0)).trans hx180_0
             replace hx180_1 := (HB.out.cell (World.block_lt_of_cell? w _ hx180_1)).trans hx180_1
             replace hx180_2 := (HB.out.cell (World.block_lt_of_cell? w _ hx180_2)).trans hx180_2
             replace hx180_3 := (HB.out.cell (World.block_lt_of_cell? w _ hx180_3)).trans hx180_3
             have HR180_2 := Aside0.mk hi180_2
             have HC180_2 := Aside0.mk hl180_2
             clear hi180_2 hl180_2
             have HR180_3 := Aside0.mk hi180_3
             have HC180_3 := Aside0.mk hl180_3
             clear hi180_3 hl180_3
             replace p180 := eq_true p180
             replace q180 := eq_true q180
             refine start_ (n := 12) (S := fun w' => w'.cell? ⟨gb175, 0, none⟩ = some (.int .i64 ((rd_T25 l0_3 x41_2).f0)) ∧ w'.cell? ⟨gb175, 1, none⟩ = some (.string ((rd_T25 l0_3 x41_2).f1)) ∧ w'.cell? ⟨gb175, 2, none⟩ = some (.slice A174_2 ((rd_T25 l0_3 x41_2).f2).length c174_2) ∧ w'.cell? ⟨gb175, 3, none⟩ = some (.slice A174_3 ((rd_T25 l0_3 x41_2).f3).length c174_3) ∧ w'.cell? ⟨gb173, 0, none⟩ = some (.int .i64 a1_0) ∧ w'.cell? ⟨gb173, 1, none⟩ = some (.string a1_1) ∧ w'.cell? ⟨gb173, 2, none⟩ = some (.slice A1_2 l1_2.length c1_2) ∧ w'.cell? ⟨gb173, 3, none⟩ = some (.slice (some ad180) l1_3.length c1_3) ∧ w'.cell? (ad180.add ((x41_2).toNat * 4)) = some (.int .i64 ((rd_T25 l1_3 x41_2).f0)) ∧ w'.cell? ⟨(ad180.add ((x41_2).toNat * 4)).block, (ad180.add ((x41_2).toNat * 4)).off + 1, none⟩ = some (.string ((rd_T25 l1_3 x41_2).f1)) ∧ w'.cell? ⟨(ad180.add ((x41_2).toNat * 4)).block, (ad180.add ((x41_2).toNat * 4)).off + 2, none⟩ = some (.slice A180_2 ((rd_T25 l1_3 x41_2).f2).length c180_2) ∧ w'.cell? ⟨(ad180.add ((x41_2).toNat * 4)).block, (ad180.add ((x41_2).toNat * 4)).off + 3, none⟩ = some (.slice A180_3 ((rd_T25 l1_3 x41_2).f3).length c180_3)) (ds := []) #[false, false, false, false, false, false, false, false, false, false, false, false] (by kernel_rfl) rfl rfl ⟨(blk_cell BK175.out 0).trans rfl, (blk_cell BK175.out 1).trans rfl, (blk_cell BK175.out 2).trans rfl, (blk_cell BK175.out 3).trans rfl, (blk_cell BK173.out 0).trans rfl, (blk_cell BK173.out 1).trans rfl, (blk_cell BK173.out 2).trans rfl, (blk_cell BK173.out 3).trans rfl, ((HB.out.cell (World.block_lt_of_cell? w _ hw180_0)).trans hw180_0), ((HB.out.cell (World.block_lt_of_cell? w _ hw180_1)).trans hw180_1), ((HB.out.cell (World.block_lt_of_cell? w _ hw180_2)).trans hw180_2), ((HB.out.cell (World.block_lt_of_cell? w _ hw180_3)).trans hw180_3)⟩ (fun hHeld => ?_); refine with_tabW spec_Alike.tab9 spec_Alike.bits9 (fun HT_ HW_ => ?_)
             generalize w94.drew = w95 at BK172 BK173 BK175 HB HR180_2 HR180_3 hx180_0 hx180_1 hx180_2 hx180_3 hHeld ⊢
             refine pure_ (i := 0) (N := some 57) (v := ?_) (a' := ?_) #[true, false, false, false, false, false, false, false, false, false, false, false] rfl rfl (any_of HT_.out (by kernel_rfl)) (fun _ _ _ h => h) (Or.inl ⟨by rfl, ?_⟩) ?_ ?_
             rotate_left
             ·
              intro w'
              go_simp
              with_reducible rfl
             rotate_left
             ·
              simp only [Act.put, List.setIfInBounds_toArray, List.set_cons_zero, List.set_cons_succ, i64_w, i32_w]
              rfl
             refine pure_ (i := 1) (N := some 58) (v := ?_) (a' := ?_) #[true, true, false, false, false, false, false, false, false, false, false, false] rfl rfl (any_of HT_.out (by kernel_rfl)) (fun _ _ _ h => h) (Or.inl ⟨by rfl, ?_⟩) ?_ ?_
             rotate_left
             ·
              intro w'
              go_simp
              with_reducible rfl
             rotate_left
             ·
              simp only [Act.put, List.setIfInBounds_toArray, List.set_cons_zero, List.set_cons_succ, i64_w, i32_w]
              rfl
             refine pure_ (i := 2) (N := some 59) (v := ?_) (a' := ?_) #[true, true, true, false, false, false, false, false, false, false, false, false] rfl rfl (any_of HT_.out (by kernel_rfl)) (fun _ _ _ h => h) (Or.inl ⟨by rfl, ?_⟩) ?_ ?_
             rotate_left
             ·
              intro w'
              go_simp
              with_reducible rfl
             rotate_left
             ·
              simp only [Act.put, List.setIfInBounds_toArray, List.set_cons_zero, List.set_cons_succ, i64_w, i32_w]
              rfl
             refine pure_ (i := 4) (N := some 61) (v := ?_) (a' := ?_) #[true, true, true, false, true, false, false, false, false, false, false, false] rfl rfl (any_of HT_.out (by kernel_rfl)) (fun _ _ _ h => h) (Or.inl ⟨by rfl, ?_⟩) ?_ ?_
             rotate_left
             ·
              intro w'
              go_simp
              with_reducible rfl
             rotate_left
             ·
              simp only [Act.put, List.setIfInBounds_toArray, List.set_cons_zero, List.set_cons_succ, i64_w, i32_w]
              rfl
             refine pure_ (i := 6) (N := some 63) (v := ?_) (a' := ?_) #[true, true, true, false, true, false, true, false, false, false, false, false] rfl rfl (any_of HT_.out (by kernel_rfl)) (fun _ _ _ h => h) (Or.inl ⟨by rfl, ?_⟩) ?_ ?_
             rotate_left
             ·
              intro w'
              go_simp
              with_reducible rfl
             rotate_left
             ·
              simp only [Act.put, List.setIfInBounds_toArray, List.set_cons_zero, List.set_cons_succ, i64_w, i32_w]
              rfl
             refine take_ (i := 3) (N := some 60) (v := ?_) (a' := ?_) #[true, true, true, true, true, false, true, false, false, false, false, false] rfl rfl (take_ofW HT_.out HW_.out (by kernel_rfl)) (fun _ _ _ h => h) (Or.inl ⟨by rfl, ?_⟩) hHeld ?_ ?_
             rotate_left
             ·
              rintro w' ⟨s0, s1, s2, s3, s4, s5, s6, s7, s8, s9, s10, s11⟩
              go_simp
              with_reducible rfl
             rotate_left
             ·
              simp only [Act.put, List.setIfInBounds_toArray, List.set_cons_zero, List.set_cons_succ, i64_w, i32_w]
              rfl
             refine take_ (i := 5) (N := some 62) (v := ?_) (a' := ?_) #[true, true, true, true, true, true, true, false, false, false, false, false] rfl rfl (take_ofW HT_.out HW_.out (by kernel_rfl)) (fun _ _ _ h => h) (Or.inl ⟨by rfl, ?_⟩) hHeld ?_ ?_
             rotate_left
             ·
              rintro w' ⟨s0, s1, s2, s3, s4, s5, s6, s7, s8, s9, s10, s11⟩
              go_simp
              with_reducible rfl
             rotate_left
             ·
              simp only [Act.put, List.setIfInBounds_toArray, List.set_cons_zero, List.set_cons_succ, i64_w, i32_w]
              rfl
             refine pure_ (i := 7) (N := some 64) (v := ?_) (a' := ?_) #[true, true, true, true, true, true, true, true, false, false, false, false] rfl rfl (any_of HT_.out (by kernel_rfl)) (fun _ _ _ h => h) (Or.inl ⟨by rfl, ?_⟩) ?_ ?_
             rotate_left
             ·
              intro w'
              go_simp
              with_reducible rfl
             rotate_left
             ·
              simp only [Act.put, List.setIfInBounds_toArray, List.set_cons_zero, List.set_cons_succ, i64_w, i32_w]
              rfl
             refine take_ (i := 8) (N := some 65) (v := ?_) (a' := ?_) #[true, true, true, true, true, true, true, true, true, false, false, false] rfl rfl (take_ofW HT_.out HW_.out (by kernel_rfl)) (fun _ _ _ h => h) (Or.inl ⟨by rfl, ?_⟩) hHeld ?_ ?_
             rotate_left
             ·
              rintro w' ⟨s0, s1, s2, s3, s4, s5, s6, s7, s8, s9, s10, s11⟩
              go_simp
              with_reducible rfl
             rotate_left
             ·
              simp only [Act.put, List.setIfInBounds_toArray, List.set_cons_zero, List.set_cons_succ, i64_w, i32_w]
              rfl
             refine one_ (i := 9) (N := some 66) #[true, true, true, true, true, true, true, true, true, true, false, false] rfl rfl (one_of HT_.out (by kernel_rfl)) (by decide) (fun K hK => ?_)
             refine goes_ Tryd.func8 (by kernel_rfl) rfl #[.agg #[.int .i64 ((rd_T25 l0_3 x41_2).f0), .string ((rd_T25 l0_3 x41_2).f1), .slice A174_2 ((rd_T25 l0_3 x41_2).f2).length c174_2, .slice A174_3 ((rd_T25 l0_3 x41_2).f3).length c174_3], .agg #[.int .i64 ((rd_T25 l1_3 x41_2).f0), .string ((rd_T25 l1_3 x41_2).f1), .slice A180_2 ((rd_T25 l1_3 x41_2).f2).length c180_2, .slice A180_3 ((rd_T25 l1_3 x41_2).f3).length c180_3]] (by rfl) rfl rfl (by (try simp only [List.map_toArray, List.map_cons, List.map_nil]); first | done | rfl | (simp only [List.length_drop, List.length_take]; rfl)) ?_
             with_reducible refine (ih k2 (by have := HJ2.out; have := HK2.out; omega) ((rd_T25 l0_3 x41_2).f0) ((rd_T25 l0_3 x41_2).f1) _ _ ((rd_T25 l0_3 x41_2).f2) _ _ ((rd_T25 l0_3 x41_2).f3) ((rd_T25 l1_3 x41_2).f0) ((rd_T25 l1_3 x41_2).f1) _ _ ((rd_T25 l1_3 x41_2).f2) _ _ ((rd_T25 l1_3 x41_2).f3) false _ ?side1 ?side2 ?side3 ?side4 ?side5 ?side6 ?side7 ?side8 A77.out).mono ?_
             (case side1 => repeat (first | exact (Kd.C_below HR174_2.out HB.out) | (with_reducible refine Kd.C_alloc ?_ _) | (with_reducible refine Kd.C_drewN ?_ _) | (with_reducible refine Kd.C_drew ?_)))
             (case side2 => exact HC174_2.out)
             (case side3 => repeat (first | exact (Kd.C_below HR174_3.out HB.out) | (with_reducible refine Kd.C_alloc ?_ _) | (with_reducible refine Kd.C_drewN ?_ _) | (with_reducible refine Kd.C_drew ?_)))
             (case side4 => exact HC174_3.out)
             (case side5 => repeat (first | exact (Kd.C_below HR180_2.out HB.out) | (with_reducible refine Kd.C_alloc ?_ _) | (with_reducible refine Kd.C_drewN ?_ _) | (with_reducible refine Kd.C_drew ?_)))
             (case side6 => exact HC180_2.out)
             (case side7 => repeat (first | exact (Kd.C_below HR180_3.out HB.out) | (with_reducible refine Kd.C_alloc ?_ _) | (with_reducible refine Kd.C_drewN ?_ _) | (with_reducible refine Kd.C_drew ?_)))
             (case side8 => exact HC180_3.out)
             rintro e w96 ⟨rfl, hb⟩
             refine ⟨_, rfl, ?_⟩
             have n0_ := Aside0.mk (blk_below (g := gb172) (o := .cells #[.int .i64 a0_0, .string a0_1, .slice A0_2 l0_2.length c0_2, .slice (some ad174) l0_3.length c0_3] 25 (0, 0)) (by (with_reducible repeat (first | refine blk_drewN ?_ _ | refine blk_drew ?_ | refine blk_alloc ?_ _)); exact BK172.out) hb)
             have n1_ := Aside0.mk (blk_below (g := gb173) (o := .cells #[.int .i64 a1_0, .string a1_1, .slice A1_2 l1_2.length c1_2, .slice (some ad180) l1_3.length c1_3] 25 (0, 0)) (by (with_reducible repeat (first | refine blk_drewN ?_ _ | refine blk_drew ?_ | refine blk_alloc ?_ _)); exact BK173.out) hb)
             have n2_ := Aside0.mk (blk_below (g := gb175) (o := .cells #[.int .i64 ((rd_T25 l0_3 x41_2).f0), .string ((rd_T25 l0_3 x41_2).f1), .slice A174_2 ((rd_T25 l0_3 x41_2).f2).length c174_2, .slice A174_3 ((rd_T25 l0_3 x41_2).f3).length c174_3] 25 (0, 0)) (by (with_reducible repeat (first | refine blk_drewN ?_ _ | refine blk_drew ?_ | refine blk_alloc ?_ _)); exact BK175.out) hb)
             have n3_ := Aside0.mk (below_step (by repeat (first | (with_reducible first | exact HB.out | apply below_alloc | apply pw_below_drewN | apply below_drew1 | refine below_set ?_ GE172.out | refine below_set ?_ GE173.out | refine below_set ?_ GE175.out) | exact HB.out)) hb)
             clear BK172
             clear BK173
             clear BK175
             clear HB
             have BK172 := n0_
             have BK173 := n1_
             have BK175 := n2_
             have HB := n3_
             clear n0_ n1_ n2_ n3_
             (try clear hb)
             (try clear hb2)
             (try clear hk)
             (try clear hi)
             refine hK.out _ _ ⟨(blk_cell BK175.out 0).trans rfl, (blk_cell BK175.out 1).trans rfl, (blk_cell BK175.out 2).trans rfl, (blk_cell BK175.out 3).trans rfl, (blk_cell BK173.out 0).trans rfl, (blk_cell BK173.out 1).trans rfl, (blk_cell BK173.out 2).trans rfl, (blk_cell BK173.out 3).trans rfl, ((HB.out.cell (World.block_lt_of_cell? w _ hw180_0)).trans hw180_0), ((HB.out.cell (World.block_lt_of_cell? w _ hw180_1)).trans hw180_1), ((HB.out.cell (World.block_lt_of_cell? w _ hw180_2)).trans hw180_2), ((HB.out.cell (World.block_lt_of_cell? w _ hw180_3)).trans hw180_3)⟩ (fun hHeld => ?_)
             clear hK K
             refine norm_ (a' := ?_) ?_ ?_
             rotate_left
             ·
              show Act.put _ (some 66) _ = _
              simp only [Act.put, List.setIfInBounds_toArray, List.set_cons_zero, List.set_cons_succ, i64_w, i32_w]
              rfl
             refine pure_ (i := 10) (N := some 67) (v := ?_) (a' := ?_) #[true, true, true, true, true, true, true, true, true, true, true, false] rfl rfl (any_of HT_.out (by kernel_rfl)) (fun _ _ _ h => h) (Or.inl ⟨by rfl, ?_⟩) ?_ ?_
             rotate_left
             ·
              intro w'
              go_simp
              with_reducible rfl
             rotate_left
             ·
              simp only [Act.put, List.setIfInBounds_toArray, List.set_cons_zero, List.set_cons_succ, i64_w, i32_w]
              rfl
             refine pure_ (i := 11) (N := some 68) (v := ?_) (a' := ?_) #[true, true, true, true, true, true, true, true, true, true, true, true] rfl rfl (any_of HT_.out (by kernel_rfl)) (fun _ _ _ h => h) (Or.inl ⟨by rfl, ?_⟩) ?_ ?_
             rotate_left
             ·
              intro w'
              go_simp
              with_reducible rfl
             rotate_left
             ·
              simp only [Act.put, List.setIfInBounds_toArray, List.set_cons_zero, List.set_cons_succ, i64_w, i32_w]
              rfl
             refine done_ (done_of HT_.out (by kernel_rfl)) ?_
             try go_wp2
             go_ret
             exact ⟨by first | rfl | (simp [errW_none, errW_some] <;> rfl) | (simp [*, errW_none, errW_some] <;> rfl), by repeat (first | (with_reducible first | exact HB.out | apply below_alloc | apply pw_below_drewN | apply below_drew1 | refine below_set ?_ GE172.out | refine below_set ?_ GE173.out | refine below_set ?_ GE175.out) | exact HB.out)⟩
           ·
            rw [if_neg c76] at H
            exact absurd H (by simp)
        ·
         rw [if_neg c26] at H
         exact absurd H (by simp)
       ·
        rw [if_neg c25] at H
        exact absurd H (by simp)
      ·
       rw [if_neg c24] at H
       have c24b0 : decide (x41_2 < (l0_3.length : Int)) = false := decide_eq_false c24
       clear c24
       obtain rfl := Option.some.inj H
       go_wp2
       go_ret
       exact ⟨by first | rfl | (simp [errW_none, errW_some] <;> rfl) | (simp [*, errW_none, errW_some] <;> rfl), by repeat (first | (with_reducible first | exact HB.out | apply below_alloc | apply pw_below_drewN | apply below_drew1 | refine below_set ?_ GE172.out | refine below_set ?_ GE173.out) | exact HB.out)⟩

end Go.Proofs.YtdjogkfgegopfaaDoor.MFnPaMergeAgain
