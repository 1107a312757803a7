/- What Go functions compute, as functions of numbers and lists, and the walks that show it. No condition. Written by a program (wip/tools/mprint.py) over the kit's print. -/
import Derived.Test.YtdjogkfgegopfaaDoorMFnPaMergeAgain0
namespace Go.Proofs.YtdjogkfgegopfaaDoor.MFnPaMergeAgain
open Go.RowKit Go.Proofs.YtdjogkfgegopfaaDoorW.PrintWords Go.Proofs.YtdjogkfgegopfaaDoorW.PrintLast Go.Proofs.YtdjogkfgegopfaaDoorW.PrintMore
attribute [local go_sem] max2_int min2_int max_two min_two max_three min_three max_four min_four   -- for this text's walks alone
set_option linter.unusedVariables false
set_option linter.unusedSimpArgs false

/-! ### spec_Size: function 26 -/
mutual
def spec_Size.l0 : Nat → Int → Int → Int → ByteArray → List ByteArray → List (S25) → Option (Int)
 | 0, _, _, _, _, _, _ => none
 | k + 1, x3, x4, x109000, x109001, x109002, x109003 => if x4 < (x109003.length : Int) then (if 0 ≤ x4 then ((spec_Size.f k ((rd_T25 x109003 x4).f0) ((rd_T25 x109003 x4).f1) ((rd_T25 x109003 x4).f2) ((rd_T25 x109003 x4).f3)).bind fun t110 => (spec_Size.l0 k (wrap64 (x3 + t110)) (wrap64 (x4 + 1)) x109000 x109001 x109002 x109003)) else (none)) else (some x3)
def spec_Size.f : Nat → Int → ByteArray → List ByteArray → List (S25) → Option (Int)
 | 0, _, _, _, _ => none
 | k + 1, a0_0, a0_1, l0_2, l0_3 => spec_Size.l0 k 1 0 a0_0 a0_1 l0_2 l0_3
end
theorem spec_Size.mono_l : ∀ k, (∀ y0 y1 y2 y3, LeO (spec_Size.f k y0 y1 y2 y3) (spec_Size.f (k + 1) y0 y1 y2 y3)) ∧ (∀ y0 y1 y2 y3 y4 y5, LeO (spec_Size.l0 k y0 y1 y2 y3 y4 y5) (spec_Size.l0 (k + 1) y0 y1 y2 y3 y4 y5))
 | 0 => ⟨fun _ _ _ _ r h => by simp [spec_Size.f] at h, fun _ _ _ _ _ _ r h => by simp [spec_Size.l0] at h⟩
 | k + 1 => by
  obtain ⟨ih0, ih1⟩ := spec_Size.mono_l k
  refine ⟨?_, ?_⟩
  ·
   intro y0 y1 y2 y3
   unfold spec_Size.f
   repeat' first
   | (with_reducible exact ih0 _ _ _ _)
   | (with_reducible exact ih1 _ _ _ _ _ _)
   | (with_reducible exact LeO.refl _)
   | (with_reducible exact LeO.none _)
   | (with_reducible refine LeO.ite ?_ ?_)
   | (with_reducible refine LeO.bind ?_ (fun _ => ?_))
   | exact ih0 _ _ _ _
   | exact ih1 _ _ _ _ _ _
   | exact LeO.none _
   | refine LeO.ite ?_ ?_
   | refine LeO.bind ?_ (fun _ => ?_)
  ·
   intro y0 y1 y2 y3 y4 y5
   unfold spec_Size.l0
   repeat' first
   | (with_reducible exact ih0 _ _ _ _)
   | (with_reducible exact ih1 _ _ _ _ _ _)
   | (with_reducible exact LeO.refl _)
   | (with_reducible exact LeO.none _)
   | (with_reducible refine LeO.ite ?_ ?_)
   | (with_reducible refine LeO.bind ?_ (fun _ => ?_))
   | exact ih0 _ _ _ _
   | exact ih1 _ _ _ _ _ _
   | exact LeO.none _
   | refine LeO.ite ?_ ?_
   | refine LeO.bind ?_ (fun _ => ?_)
theorem spec_Size.mono : ∀ a0 a1 a2 a3 k, LeO (spec_Size.f k a0 a1 a2 a3) (spec_Size.f (k + 1) a0 a1 a2 a3) := by
 intro a0 a1 a2 a3 k
 obtain ⟨ih0, ih1⟩ := spec_Size.mono_l k
 exact ih0 a0 a1 a2 a3
set_option maxHeartbeats 8000000 in
set_option maxRecDepth 100000 in
theorem spec_Size.calls (k : Nat) : ∀ (a0_0 : Int) (a0_1 : ByteArray) (A0_2 : Option Addr) (c0_2 : Nat) (l0_2 : List ByteArray) (A0_3 : Option Addr) (c0_3 : Nat) (l0_3 : List (S25)) (r : Int) (w : World) (hr0_2 : Kd.C Kd.string w A0_2 l0_2.length l0_2) (hc0_2 : l0_2.length ≤ c0_2) (hr0_3 : Kd.C k25 w A0_3 l0_3.length l0_3) (hc0_3 : l0_3.length ≤ c0_3) (h : spec_Size.f k a0_0 a0_1 l0_2 l0_3 = some r),
  Calls Tryd.prog 26 #[.agg #[.int .i64 a0_0, .string a0_1, .slice A0_2 l0_2.length c0_2, .slice A0_3 l0_3.length c0_3]] w fun e w' => e = .returned (.int .i64 r) ∧ Below w.heap.size w w' := by
 induction k using Nat.strongRecOn with
 | _ k ih =>
 intro a0_0 a0_1 A0_2 c0_2 l0_2 A0_3 c0_3 l0_3 r w hr0_2 hc0_2 hr0_3 hc0_3 h
 cases k with
 | zero => exact absurd h (by simp [spec_Size.f])
 | succ k =>
 simp only [spec_Size.f] at h
 have hu25 := Tryd.underlying25
 have HR0_2 := Aside0.mk hr0_2
 have HC0_2 := Aside0.mk hc0_2
 clear hr0_2 hc0_2
 have HR0_3 := Aside0.mk hr0_3
 have HC0_3 := Aside0.mk hc0_3
 clear hr0_3 hc0_3
 have HB := Aside0.mk (Below.refl w.heap.size w)
 have H : (spec_Size.l0 k 1 0 a0_0 a0_1 l0_2 l0_3) = some r := h
 clear h
 have H' := Aside0.mk H
 clear H
 go_enter Tryd.func26, Tryd.ntmps26
 go_wp2_with (first | ((with_reducible refine gate_dst (N := 1) rfl ?_); refine box_event ?hg (N := 1) ?hd (cs := #[.int .i64 a0_0, .string a0_1, .slice A0_2 l0_2.length c0_2, .slice A0_3 l0_3.length c0_3]) (t := 25) ?hr ?_; (case hd => rfl); (case hg => rfl); (case hr => first | (go_simp; done) | (go_simp; rfl)); intro gb108 hg w2 hbox hb; have n0_ := Aside0.mk (below_step (by repeat (first | (with_reducible first | exact HB.out | apply below_alloc | apply pw_below_drewN | apply below_drew1) | exact HB.out)) hb); have n1_ := Aside0.mk (hbox); have n2_ := Aside0.mk ((by rw [hg]; exact (below_size (by repeat (first | (with_reducible first | exact HB.out | apply below_alloc | apply pw_below_drewN | apply below_drew1) | exact HB.out))) : w.heap.size ≤ gb108)); have n3_ := Aside0.mk ((by rw [hg]; exact (below_size (by repeat (first | (with_reducible first | exact HB.out | apply below_alloc | apply pw_below_drewN | apply below_drew1) | exact HB.out))) : w.heap.size ≤ gb108)); clear HB; have HB := n0_; have BK108 := n1_; have GW108 := n2_; have GE108 := n3_; clear n0_ n1_ n2_ n3_; clear hb hbox hg))
 try simp only [Act.put, List.setIfInBounds_toArray, List.set_cons_succ, List.set_cons_zero]
 go_loopg [3, 4] k (fun kq v3 v4 w' => ∃ (x3_1 : Int) (x4_1 : Int), v3 = .int .i64 x3_1 ∧ v4 = .int .i64 x4_1 ∧ Aside0 (spec_Size.l0 kq x3_1 x4_1 a0_0 a0_1 l0_2 l0_3 = some r) ∧ Aside0 (kq ≤ k) ∧ Aside0 (w'.heap[gb108]? = some (.cells #[.int .i64 a0_0, .string a0_1, (.slice A0_2 l0_2.length c0_2), (.slice A0_3 l0_3.length c0_3)] 25 (0, 0))) ∧ Aside0 (Below w.heap.size w w'))
 case atStart => exact ⟨(1), (0), (by first | rfl | (simp; done) | (simp [*]; done) | (simp; rw [Bool.eq_iff_iff]; simp; done)), (by first | rfl | (simp; done) | (simp [*]; done) | (simp; rw [Bool.eq_iff_iff]; simp; done)), H', ⟨Nat.le_refl _⟩, ⟨by (with_reducible repeat (first | refine blk_drewN ?_ _ | refine blk_drew ?_ | refine blk_alloc ?_ _)); exact BK108.out⟩, ⟨by repeat (first | (with_reducible first | exact HB.out | apply below_alloc | apply pw_below_drewN | apply below_drew1 | refine below_set ?_ GE108.out) | exact HB.out)⟩⟩
 case round =>
  clear H'
  (try clear c2); (try clear p2)
  obtain ⟨x3_1, x4_1, rfl, rfl, HA, HK1, BK108, HB⟩ := hrel
  cases gk with
  | zero => exact absurd HA.out (by simp [spec_Size.l0])
  | succ k1 =>
   have H := HA.out
   clear HA
   simp only [spec_Size.l0] at H
   by_cases c3 : x4_1 < (l0_3.length : Int)
   ·
    rw [if_pos c3] at H
    have c3b0 : decide (x4_1 < (l0_3.length : Int)) = true := decide_eq_true c3
    clear c3
    by_cases c4 : 0 ≤ x4_1
    ·
     rw [if_pos c4] at H
     have c4b0 : decide (0 ≤ x4_1) = true := decide_eq_true c4
     clear c4
     replace H := Option.bind_eq_some_iff.mp H
     obtain ⟨t110, A50, H⟩ := H
     replace H : (spec_Size.l0 k1 (wrap64 (x3_1 + t110)) (wrap64 (x4_1 + 1)) a0_0 a0_1 l0_2 l0_3) = some r := H
     have A5 := Aside0.mk A50
     clear A50
     have H' := Aside0.mk H
     clear H
     have hcz6_0 : wr.cell? ⟨gb108, 0, none⟩ = some (.int .i64 a0_0) := (blk_cell BK108.out 0).trans rfl
     have hcz6_1 : wr.cell? ⟨gb108, 1, none⟩ = some (.string a0_1) := (blk_cell BK108.out 1).trans rfl
     have hcz6_2 : wr.cell? ⟨gb108, 2, none⟩ = some (.slice A0_2 l0_2.length c0_2) := (blk_cell BK108.out 2).trans rfl
     have hcz6_3 : wr.cell? ⟨gb108, 3, none⟩ = some (.slice A0_3 l0_3.length c0_3) := (blk_cell BK108.out 3).trans rfl
     have hfz6_0 := blk_frozen BK108.out 0
     have hfz6_1 := blk_frozen BK108.out 1
     have hfz6_2 := blk_frozen BK108.out 2
     have hfz6_3 := blk_frozen BK108.out 3
     have p109 : 0 ≤ (x4_1 : Int) := of_decide_eq_true (by first | (with_reducible assumption) | assumption)
     have q109 : x4_1 < (l0_3.length : Int) := of_decide_eq_true (by first | (with_reducible assumption) | assumption)
     obtain ⟨ad109, A109_2, c109_2, A109_3, c109_3, e109, hx109_0, hx109_1, hx109_2, hx109_3, hl109_2, hi109_2, hl109_3, hi109_3⟩ := at_T25 HR0_3.out x4_1 p109 q109
     cases e109
     replace hx109_0 := (HB.out.cell (World.block_lt_of_cell? w _ hx109_0)).trans hx109_0
     replace hx109_1 := (HB.out.cell (World.block_lt_of_cell? w _ hx109_1)).trans hx109_1
     replace hx109_2 := (HB.out.cell (World.block_lt_of_cell? w _ hx109_2)).trans hx109_2
     replace hx109_3 := (HB.out.cell (World.block_lt_of_cell? w _ hx109_3)).trans hx109_3
     have HR109_2 := Aside0.mk hi109_2
     have HC109_2 := Aside0.mk hl109_2
     clear hi109_2 hl109_2
     have HR109_3 := Aside0.mk hi109_3
     have HC109_3 := Aside0.mk hl109_3
     clear hi109_3 hl109_3
     replace p109 := eq_true p109
     replace q109 := eq_true q109
     go_wp2_with (first | ((with_reducible refine gate_callee (f := 26) rfl ?_); refine goesL_ (some 18) rfl rfl Tryd.func26 (by kernel_rfl) rfl #[.agg #[.int .i64 ((rd_T25 l0_3 x4_1).f0), .string ((rd_T25 l0_3 x4_1).f1), .slice A109_2 ((rd_T25 l0_3 x4_1).f2).length c109_2, .slice A109_3 ((rd_T25 l0_3 x4_1).f3).length c109_3]] rfl (by (try simp only [List.map_toArray, List.map_cons, List.map_nil]); first | done | rfl | (simp only [List.length_drop, List.length_take]; rfl)) ?_; (with_reducible refine (ih k1 (by have := HK1.out; omega) ((rd_T25 l0_3 x4_1).f0) ((rd_T25 l0_3 x4_1).f1) _ _ ((rd_T25 l0_3 x4_1).f2) _ _ ((rd_T25 l0_3 x4_1).f3) t110 _ ?side1 ?side2 ?side3 ?side4 A5.out).mono ?_); (case side1 => repeat (first | exact (Kd.C_below HR109_2.out HB.out) | (with_reducible refine Kd.C_alloc ?_ _) | (with_reducible refine Kd.C_drewN ?_ _) | (with_reducible refine Kd.C_drew ?_))); (case side2 => exact HC109_2.out); (case side3 => repeat (first | exact (Kd.C_below HR109_3.out HB.out) | (with_reducible refine Kd.C_alloc ?_ _) | (with_reducible refine Kd.C_drewN ?_ _) | (with_reducible refine Kd.C_drew ?_))); (case side4 => exact HC109_3.out); rintro e w7 ⟨rfl, hb⟩; refine ⟨_, rfl, ?_⟩; have n0_ := Aside0.mk (blk_below (g := gb108) (o := .cells #[.int .i64 a0_0, .string a0_1, .slice A0_2 l0_2.length c0_2, .slice (some ad109) l0_3.length c0_3] 25 (0, 0)) (by (with_reducible repeat (first | refine blk_drewN ?_ _ | refine blk_drew ?_ | refine blk_alloc ?_ _)); exact BK108.out) hb); have n1_ := Aside0.mk (below_step (by repeat (first | (with_reducible first | exact HB.out | apply below_alloc | apply pw_below_drewN | apply below_drew1 | refine below_set ?_ GE108.out) | exact HB.out)) hb); clear BK108; clear HB; have BK108 := n0_; have HB := n1_; clear n0_ n1_; (try clear hb); (try clear hb2); (try clear hk); (try clear hi)))
     go_roundg k1
     case measure => have := HK1.out; omega
     case rel => exact ⟨(wrap64 (x3_1 + t110)), (wrap64 (x4_1 + 1)), (by first | rfl | (simp; done) | (simp [*]; done) | (simp; rw [Bool.eq_iff_iff]; simp; done)), (by first | rfl | (simp; done) | (simp [*]; done) | (simp; rw [Bool.eq_iff_iff]; simp; done)), H', ⟨by have := HK1.out; omega⟩, ⟨by (with_reducible repeat (first | refine blk_drewN ?_ _ | refine blk_drew ?_ | refine blk_alloc ?_ _)); exact BK108.out⟩, ⟨by repeat (first | (with_reducible first | exact HB.out | apply below_alloc | apply pw_below_drewN | apply below_drew1 | refine below_set ?_ GE108.out) | exact HB.out)⟩⟩
    ·
     rw [if_neg c4] at H
     exact absurd H (by simp)
   ·
    rw [if_neg c3] at H
    have c3b0 : decide (x4_1 < (l0_3.length : Int)) = false := decide_eq_false c3
    clear c3
    obtain rfl := Option.some.inj H
    have hcz8_0 : wr.cell? ⟨gb108, 0, none⟩ = some (.int .i64 a0_0) := (blk_cell BK108.out 0).trans rfl
    have hcz8_1 : wr.cell? ⟨gb108, 1, none⟩ = some (.string a0_1) := (blk_cell BK108.out 1).trans rfl
    have hcz8_2 : wr.cell? ⟨gb108, 2, none⟩ = some (.slice A0_2 l0_2.length c0_2) := (blk_cell BK108.out 2).trans rfl
    have hcz8_3 : wr.cell? ⟨gb108, 3, none⟩ = some (.slice A0_3 l0_3.length c0_3) := (blk_cell BK108.out 3).trans rfl
    have hfz8_0 := blk_frozen BK108.out 0
    have hfz8_1 := blk_frozen BK108.out 1
    have hfz8_2 := blk_frozen BK108.out 2
    have hfz8_3 := blk_frozen BK108.out 3
    go_wp2
    go_ret
    exact ⟨by first | rfl | (simp [errW_none, errW_some] <;> rfl) | (simp [*, errW_none, errW_some] <;> rfl), by repeat (first | (with_reducible first | exact HB.out | apply below_alloc | apply pw_below_drewN | apply below_drew1 | refine below_set ?_ GE108.out) | exact HB.out)⟩

/-! ### spec_Depth: function 27 -/
mutual
def spec_Depth.j0 : Nat → Bool → Int → ByteArray → List ByteArray → List (S25) → Option (Int)
 | 0, _, _, _, _, _ => none
 | k + 1, x12, x112000, x112001, x112002, x112003 => if x12 = true then (some 0) else (spec_Depth.l0 k 0 0 x112000 x112001 x112002 x112003)
def spec_Depth.l0 : Nat → Int → Int → Int → ByteArray → List ByteArray → List (S25) → Option (Int)
 | 0, _, _, _, _, _, _ => none
 | k + 1, x3, x4, x112000, x112001, x112002, x112003 => if x4 < (x112003.length : Int) then (if 0 ≤ x4 then ((spec_Depth.f k ((rd_T25 x112003 x4).f0) ((rd_T25 x112003 x4).f1) ((rd_T25 x112003 x4).f2) ((rd_T25 x112003 x4).f3)).bind fun t113 => (spec_Depth.l0 k (mx x3 t113) (wrap64 (x4 + 1)) x112000 x112001 x112002 x112003)) else (none)) else (some (wrap64 (x3 + 1)))
def spec_Depth.f : Nat → Int → ByteArray → List ByteArray → List (S25) → Option (Int)
 | 0, _, _, _, _ => none
 | k + 1, a0_0, a0_1, l0_2, l0_3 => if a0_0 = 5 then (spec_Depth.j0 k false a0_0 a0_1 l0_2 l0_3) else (spec_Depth.j0 k (a0_0 != 6) a0_0 a0_1 l0_2 l0_3)
end
theorem spec_Depth.mono_l : ∀ k, (∀ y0 y1 y2 y3, LeO (spec_Depth.f k y0 y1 y2 y3) (spec_Depth.f (k + 1) y0 y1 y2 y3)) ∧ (∀ y0 y1 y2 y3 y4, LeO (spec_Depth.j0 k y0 y1 y2 y3 y4) (spec_Depth.j0 (k + 1) y0 y1 y2 y3 y4)) ∧ (∀ y0 y1 y2 y3 y4 y5, LeO (spec_Depth.l0 k y0 y1 y2 y3 y4 y5) (spec_Depth.l0 (k + 1) y0 y1 y2 y3 y4 y5))
 | 0 => ⟨fun _ _ _ _ r h => by simp [spec_Depth.f] at h, fun _ _ _ _ _ r h => by simp [spec_Depth.j0] at h, fun _ _ _ _ _ _ r h => by simp [spec_Depth.l0] at h⟩
 | k + 1 => by
  obtain ⟨ih0, ih1, ih2⟩ := spec_Depth.mono_l k
  refine ⟨?_, ?_, ?_⟩
  ·
   intro y0 y1 y2 y3
   unfold spec_Depth.f
   repeat' first
   | (with_reducible exact ih0 _ _ _ _)
   | (with_reducible exact ih1 _ _ _ _ _)
   | (with_reducible exact ih2 _ _ _ _ _ _)
   | (with_reducible exact LeO.refl _)
   | (with_reducible exact LeO.none _)
   | (with_reducible refine LeO.ite ?_ ?_)
   | (with_reducible refine LeO.bind ?_ (fun _ => ?_))
   | exact ih0 _ _ _ _
   | exact ih1 _ _ _ _ _
   | exact ih2 _ _ _ _ _ _
   | exact LeO.none _
   | refine LeO.ite ?_ ?_
   | refine LeO.bind ?_ (fun _ => ?_)
  ·
   intro y0 y1 y2 y3 y4
   unfold spec_Depth.j0
   repeat' first
   | (with_reducible exact ih0 _ _ _ _)
   | (with_reducible exact ih1 _ _ _ _ _)
   | (with_reducible exact ih2 _ _ _ _ _ _)
   | (with_reducible exact LeO.refl _)
   | (with_reducible exact LeO.none _)
   | (with_reducible refine LeO.ite ?_ ?_)
   | (with_reducible refine LeO.bind ?_ (fun _ => ?_))
   | exact ih0 _ _ _ _
   | exact ih1 _ _ _ _ _
   | exact ih2 _ _ _ _ _ _
   | exact LeO.none _
   | refine LeO.ite ?_ ?_
   | refine LeO.bind ?_ (fun _ => ?_)
  ·
   intro y0 y1 y2 y3 y4 y5
   unfold spec_Depth.l0
   repeat' first
   | (with_reducible exact ih0 _ _ _ _)
   | (with_reducible exact ih1 _ _ _ _ _)
   | (with_reducible exact ih2 _ _ _ _ _ _)
   | (with_reducible exact LeO.refl _)
   | (with_reducible exact LeO.none _)
   | (with_reducible refine LeO.ite ?_ ?_)
   | (with_reducible refine LeO.bind ?_ (fun _ => ?_))
   | exact ih0 _ _ _ _
   | exact ih1 _ _ _ _ _
   | exact ih2 _ _ _ _ _ _
   | exact LeO.none _
   | refine LeO.ite ?_ ?_
   | refine LeO.bind ?_ (fun _ => ?_)
theorem spec_Depth.mono : ∀ a0 a1 a2 a3 k, LeO (spec_Depth.f k a0 a1 a2 a3) (spec_Depth.f (k + 1) a0 a1 a2 a3) := by
 intro a0 a1 a2 a3 k
 obtain ⟨ih0, ih1, ih2⟩ := spec_Depth.mono_l k
 exact ih0 a0 a1 a2 a3
set_option maxHeartbeats 8000000 in
set_option maxRecDepth 100000 in
theorem spec_Depth.calls (k : Nat) : ∀ (a0_0 : Int) (a0_1 : ByteArray) (A0_2 : Option Addr) (c0_2 : Nat) (l0_2 : List ByteArray) (A0_3 : Option Addr) (c0_3 : Nat) (l0_3 : List (S25)) (r : Int) (w : World) (hr0_2 : Kd.C Kd.string w A0_2 l0_2.length l0_2) (hc0_2 : l0_2.length ≤ c0_2) (hr0_3 : Kd.C k25 w A0_3 l0_3.length l0_3) (hc0_3 : l0_3.length ≤ c0_3) (h : spec_Depth.f k a0_0 a0_1 l0_2 l0_3 = some r),
  Calls Tryd.prog 27 #[.agg #[.int .i64 a0_0, .string a0_1, .slice A0_2 l0_2.length c0_2, .slice A0_3 l0_3.length c0_3]] w fun e w' => e = .returned (.int .i64 r) ∧ Below w.heap.size w w' := by
 induction k using Nat.strongRecOn with
 | _ k ih =>
 intro a0_0 a0_1 A0_2 c0_2 l0_2 A0_3 c0_3 l0_3 r w hr0_2 hc0_2 hr0_3 hc0_3 h
 cases k with
 | zero => exact absurd h (by simp [spec_Depth.f])
 | succ k =>
 simp only [spec_Depth.f] at h
 have hu25 := Tryd.underlying25
 have HR0_2 := Aside0.mk hr0_2
 have HC0_2 := Aside0.mk hc0_2
 clear hr0_2 hc0_2
 have HR0_3 := Aside0.mk hr0_3
 have HC0_3 := Aside0.mk hc0_3
 clear hr0_3 hc0_3
 have HB := Aside0.mk (Below.refl w.heap.size w)
 have H : (if a0_0 = 5 then (spec_Depth.j0 k false a0_0 a0_1 l0_2 l0_3) else (spec_Depth.j0 k (a0_0 != 6) a0_0 a0_1 l0_2 l0_3)) = some r := h
 clear h
 have HC2 := Aside0.mk H
 clear H
 go_enter Tryd.func27, Tryd.ntmps27
 go_upto_region 1 with (first | ((with_reducible refine gate_dst (N := 1) rfl ?_); refine box_event ?hg (N := 1) ?hd (cs := #[.int .i64 a0_0, .string a0_1, .slice A0_2 l0_2.length c0_2, .slice A0_3 l0_3.length c0_3]) (t := 25) ?hr ?_; (case hd => rfl); (case hg => rfl); (case hr => first | (go_simp; done) | (go_simp; rfl)); intro gb111 hg w3 hbox hb; have n0_ := Aside0.mk (below_step (by repeat (first | (with_reducible first | exact HB.out | apply below_alloc | apply pw_below_drewN | apply below_drew1) | exact HB.out)) hb); have n1_ := Aside0.mk (hbox); have n2_ := Aside0.mk ((by rw [hg]; exact (below_size (by repeat (first | (with_reducible first | exact HB.out | apply below_alloc | apply pw_below_drewN | apply below_drew1) | exact HB.out))) : w.heap.size ≤ gb111)); have n3_ := Aside0.mk ((by rw [hg]; exact (below_size (by repeat (first | (with_reducible first | exact HB.out | apply below_alloc | apply pw_below_drewN | apply below_drew1) | exact HB.out))) : w.heap.size ≤ gb111)); clear HB; have HB := n0_; have BK111 := n1_; have GW111 := n2_; have GE111 := n3_; clear n0_ n1_ n2_ n3_; clear hb hbox hg))
 (try simp only [Act.put, List.setIfInBounds_toArray, List.set_cons_zero, List.set_cons_succ])
 go_cut [12] (fun v12 wc => ∃ (kq : Nat) (x12_1 : Bool), v12 = .bool x12_1 ∧ Aside0 (spec_Depth.j0 kq x12_1 a0_0 a0_1 l0_2 l0_3 = some r) ∧ Aside0 (kq ≤ k) ∧ Aside0 (wc.heap[gb111]? = some (.cells #[.int .i64 a0_0, .string a0_1, (.slice A0_2 l0_2.length c0_2), (.slice A0_3 l0_3.length c0_3)] 25 (0, 0))) ∧ Aside0 (Below w.heap.size w wc))
 case first =>
  have H := HC2.out
  clear HC2
  by_cases c4 : a0_0 = 5
  ·
   rw [if_pos c4] at H
   have c4b0 : (a0_0 == 5) = true := beq_iff_eq.mpr c4
   have c4b1 : (a0_0 != 5) = false := bne_eq_false_iff_eq.mpr c4
   clear c4
   (first | rw [c4b0] | (simp only [i64_w, i32_w]; rw [c4b0]) | skip)
   have H' := Aside0.mk H
   clear H
   have hcz5_0 : w3.cell? ⟨gb111, 0, none⟩ = some (.int .i64 a0_0) := (blk_cell BK111.out 0).trans rfl
   have hcz5_1 : w3.cell? ⟨gb111, 1, none⟩ = some (.string a0_1) := (blk_cell BK111.out 1).trans rfl
   have hcz5_2 : w3.cell? ⟨gb111, 2, none⟩ = some (.slice A0_2 l0_2.length c0_2) := (blk_cell BK111.out 2).trans rfl
   have hcz5_3 : w3.cell? ⟨gb111, 3, none⟩ = some (.slice A0_3 l0_3.length c0_3) := (blk_cell BK111.out 3).trans rfl
   have hfz5_0 := blk_frozen BK111.out 0
   have hfz5_1 := blk_frozen BK111.out 1
   have hfz5_2 := blk_frozen BK111.out 2
   have hfz5_3 := blk_frozen BK111.out 3
   go_wp2
   go_meet
   case rel => exact ⟨_, (false), (by first | rfl | (simp; done) | (simp [*]; done) | (simp; rw [Bool.eq_iff_iff]; simp; done)), H', ⟨by first | omega | exact Nat.le_refl _⟩, ⟨by (with_reducible repeat (first | refine blk_drewN ?_ _ | refine blk_drew ?_ | refine blk_alloc ?_ _)); exact BK111.out⟩, ⟨by repeat (first | (with_reducible first | exact HB.out | apply below_alloc | apply pw_below_drewN | apply below_drew1 | refine below_set ?_ GE111.out) | exact HB.out)⟩⟩
  ·
   rw [if_neg c4] at H
   have c4b0 : (a0_0 == 5) = false := beq_eq_false_iff_ne.mpr c4
   have c4b1 : (a0_0 != 5) = true := bne_iff_ne.mpr c4
   (first | rw [c4b0] | (simp only [i64_w, i32_w]; rw [c4b0]) | skip)
   have H' := Aside0.mk H
   clear H
   have hcz6_0 : w3.cell? ⟨gb111, 0, none⟩ = some (.int .i64 a0_0) := (blk_cell BK111.out 0).trans rfl
   have hcz6_1 : w3.cell? ⟨gb111, 1, none⟩ = some (.string a0_1) := (blk_cell BK111.out 1).trans rfl
   have hcz6_2 : w3.cell? ⟨gb111, 2, none⟩ = some (.slice A0_2 l0_2.length c0_2) := (blk_cell BK111.out 2).trans rfl
   have hcz6_3 : w3.cell? ⟨gb111, 3, none⟩ = some (.slice A0_3 l0_3.length c0_3) := (blk_cell BK111.out 3).trans rfl
   have hfz6_0 := blk_frozen BK111.out 0
   have hfz6_1 := blk_frozen BK111.out 1
   have hfz6_2 := blk_frozen BK111.out 2
   have hfz6_3 := blk_frozen BK111.out 3
   go_wp2
   go_meet
   case rel => exact ⟨_, ((a0_0 != 6)), (by first | rfl | (simp; done) | (simp [*]; done) | (simp; rw [Bool.eq_iff_iff]; simp; done)), H', ⟨by first | omega | exact Nat.le_refl _⟩, ⟨by (with_reducible repeat (first | refine blk_drewN ?_ _ | refine blk_drew ?_ | refine blk_alloc ?_ _)); exact BK111.out⟩, ⟨by repeat (first | (with_reducible first | exact HB.out | apply below_alloc | apply pw_below_drewN | apply below_drew1 | refine below_set ?_ GE111.out) | exact HB.out)⟩⟩
 case rest =>
  clear HC2
  (try clear c2); (try clear p2); (try clear c4); (try clear c4b0); (try clear c4b1); (try clear hcz5_0); (try clear hcz5_1); (try clear hcz5_2); (try clear hcz5_3); (try clear hcz6_0); (try clear hcz6_1); (try clear hcz6_2); (try clear hcz6_3); (try clear hfz5_0); (try clear hfz5_1); (try clear hfz5_2); (try clear hfz5_3); (try clear hfz6_0); (try clear hfz6_1); (try clear hfz6_2); (try clear hfz6_3)
  obtain ⟨kq, x12_1, rfl, HA, HJ1, BK111, HB⟩ := hcut
  cases kq with
  | zero => exact absurd HA.out (by simp [spec_Depth.j0])
  | succ kj1 =>
   have H := HA.out
   clear HA
   simp only [spec_Depth.j0] at H
   by_cases c7 : x12_1 = true
   ·
    subst c7
    have H1 : (some 0) = some r := by rw [if_pos rfl] at H; exact H
    clear H
    have H := H1
    clear H1
    obtain rfl := Option.some.inj H
    go_wp2
    go_ret
    exact ⟨by first | rfl | (simp [errW_none, errW_some] <;> rfl) | (simp [*, errW_none, errW_some] <;> rfl), by repeat (first | (with_reducible first | exact HB.out | apply below_alloc | apply pw_below_drewN | apply below_drew1 | refine below_set ?_ GE111.out) | exact HB.out)⟩
   ·
    replace c7 := Bool.eq_false_iff.mpr c7
    subst c7
    have H1 : (spec_Depth.l0 kj1 0 0 a0_0 a0_1 l0_2 l0_3) = some r := by rw [if_neg (show ¬ (false = true) by decide)] at H; exact H
    clear H
    have H := H1
    clear H1
    have H' := Aside0.mk H
    clear H
    go_wp2
    try simp only [Act.put, List.setIfInBounds_toArray, List.set_cons_succ, List.set_cons_zero]
    go_loopg [3, 4] kj1 (fun kq v3 v4 w' => ∃ (x3_2 : Int) (x4_2 : Int), v3 = .int .i64 x3_2 ∧ v4 = .int .i64 x4_2 ∧ Aside0 (spec_Depth.l0 kq x3_2 x4_2 a0_0 a0_1 l0_2 l0_3 = some r) ∧ Aside0 (kq ≤ kj1) ∧ Aside0 (w'.heap[gb111]? = some (.cells #[.int .i64 a0_0, .string a0_1, (.slice A0_2 l0_2.length c0_2), (.slice A0_3 l0_3.length c0_3)] 25 (0, 0))) ∧ Aside0 (Below w.heap.size w w'))
    case atStart => exact ⟨(0), (0), (by first | rfl | (simp; done) | (simp [*]; done) | (simp; rw [Bool.eq_iff_iff]; simp; done)), (by first | rfl | (simp; done) | (simp [*]; done) | (simp; rw [Bool.eq_iff_iff]; simp; done)), H', ⟨Nat.le_refl _⟩, ⟨by (with_reducible repeat (first | refine blk_drewN ?_ _ | refine blk_drew ?_ | refine blk_alloc ?_ _)); exact BK111.out⟩, ⟨by repeat (first | (with_reducible first | exact HB.out | apply below_alloc | apply pw_below_drewN | apply below_drew1 | refine below_set ?_ GE111.out) | exact HB.out)⟩⟩
    case round =>
     clear H'
     (try clear c2); (try clear p2); (try clear c4); (try clear c4b0); (try clear c4b1); (try clear c7); (try clear hcz5_0); (try clear hcz5_1); (try clear hcz5_2); (try clear hcz5_3); (try clear hcz6_0); (try clear hcz6_1); (try clear hcz6_2); (try clear hcz6_3); (try clear hfz5_0); (try clear hfz5_1); (try clear hfz5_2); (try clear hfz5_3); (try clear hfz6_0); (try clear hfz6_1); (try clear hfz6_2); (try clear hfz6_3); (try clear p2)
     obtain ⟨x3_2, x4_2, rfl, rfl, HA, HK2, BK111, HB⟩ := hrel
     cases gk with
     | zero => exact absurd HA.out (by simp [spec_Depth.l0])
     | succ k2 =>
      have H := HA.out
      clear HA
      simp only [spec_Depth.l0] at H
      by_cases c8 : x4_2 < (l0_3.length : Int)
      ·
       rw [if_pos c8] at H
       have c8b0 : decide (x4_2 < (l0_3.length : Int)) = true := decide_eq_true c8
       clear c8
       by_cases c9 : 0 ≤ x4_2
       ·
        rw [if_pos c9] at H
        have c9b0 : decide (0 ≤ x4_2) = true := decide_eq_true c9
        clear c9
        replace H := Option.bind_eq_some_iff.mp H
        obtain ⟨t113, A100, H⟩ := H
        replace H : (spec_Depth.l0 k2 (mx x3_2 t113) (wrap64 (x4_2 + 1)) a0_0 a0_1 l0_2 l0_3) = some r := H
        have A10 := Aside0.mk A100
        clear A100
        obtain ⟨ji11, hji11⟩ : ∃ j_ : Int, (mx x3_2 t113) = j_ := ⟨_, rfl⟩
        replace H : (spec_Depth.l0 k2 ji11 (wrap64 (x4_2 + 1)) a0_0 a0_1 l0_2 l0_3) = some r := by first | (rw [hji11] at H; exact H) | (simp only [hji11] at H ⊢; exact H)
        (try rw [hji11] at A10)
        have hji11_ : (if x3_2 < t113 then t113 else x3_2) = ji11 := hji11
        have H' := Aside0.mk H
        clear H
        have hcz12_0 : wr.cell? ⟨gb111, 0, none⟩ = some (.int .i64 a0_0) := (blk_cell BK111.out 0).trans rfl
        have hcz12_1 : wr.cell? ⟨gb111, 1, none⟩ = some (.string a0_1) := (blk_cell BK111.out 1).trans rfl
        have hcz12_2 : wr.cell? ⟨gb111, 2, none⟩ = some (.slice A0_2 l0_2.length c0_2) := (blk_cell BK111.out 2).trans rfl
        have hcz12_3 : wr.cell? ⟨gb111, 3, none⟩ = some (.slice A0_3 l0_3.length c0_3) := (blk_cell BK111.out 3).trans rfl
        have hfz12_0 := blk_frozen BK111.out 0
        have hfz12_1 := blk_frozen BK111.out 1
        have hfz12_2 := blk_frozen BK111.out 2
        have hfz12_3 := blk_frozen BK111.out 3
        have p112 : 0 ≤ (x4_2 : Int) := of_decide_eq_true (by first | (with_reducible assumption) | assumption)
        have q112 : x4_2 < (l0_3.length : Int) := of_decide_eq_true (by first | (with_reducible assumption) | assumption)
        obtain ⟨ad112, A112_2, c112_2, A112_3, c112_3, e112, hx112_0, hx112_1, hx112_2, hx112_3, hl112_2, hi112_2, hl112_3, hi112_3⟩ := at_T25 HR0_3.out x4_2 p112 q112
        cases e112
        replace hx112_0 := (HB.out.cell (World.block_lt_of_cell? w _ hx112_0)).trans hx112_0
        replace hx112_1 := (HB.out.cell (World.block_lt_of_cell? w _ hx112_1)).trans hx112_1
        replace hx112_2 := (HB.out.cell (World.block_lt_of_cell? w _ hx112_2)).trans hx112_2
        replace hx112_3 := (HB.out.cell (World.block_lt_of_cell? w _ hx112_3)).trans hx112_3
        have HR112_2 := Aside0.mk hi112_2
        have HC112_2 := Aside0.mk hl112_2
        clear hi112_2 hl112_2
        have HR112_3 := Aside0.mk hi112_3
        have HC112_3 := Aside0.mk hl112_3
        clear hi112_3 hl112_3
        replace p112 := eq_true p112
        replace q112 := eq_true q112
        go_wp2_with (first | ((with_reducible refine gate_callee (f := 27) rfl ?_); refine goesL_ (some 26) rfl rfl Tryd.func27 (by kernel_rfl) rfl #[.agg #[.int .i64 ((rd_T25 l0_3 x4_2).f0), .string ((rd_T25 l0_3 x4_2).f1), .slice A112_2 ((rd_T25 l0_3 x4_2).f2).length c112_2, .slice A112_3 ((rd_T25 l0_3 x4_2).f3).length c112_3]] rfl (by (try simp only [List.map_toArray, List.map_cons, List.map_nil]); first | done | rfl | (simp only [List.length_drop, List.length_take]; rfl)) ?_; (with_reducible refine (ih k2 (by have := HJ1.out; have := HK2.out; omega) ((rd_T25 l0_3 x4_2).f0) ((rd_T25 l0_3 x4_2).f1) _ _ ((rd_T25 l0_3 x4_2).f2) _ _ ((rd_T25 l0_3 x4_2).f3) t113 _ ?side1 ?side2 ?side3 ?side4 A10.out).mono ?_); (case side1 => repeat (first | exact (Kd.C_below HR112_2.out HB.out) | (with_reducible refine Kd.C_alloc ?_ _) | (with_reducible refine Kd.C_drewN ?_ _) | (with_reducible refine Kd.C_drew ?_))); (case side2 => exact HC112_2.out); (case side3 => repeat (first | exact (Kd.C_below HR112_3.out HB.out) | (with_reducible refine Kd.C_alloc ?_ _) | (with_reducible refine Kd.C_drewN ?_ _) | (with_reducible refine Kd.C_drew ?_))); (case side4 => exact HC112_3.out); rintro e w13 ⟨rfl, hb⟩; refine ⟨_, rfl, ?_⟩; have n0_ := Aside0.mk (blk_below (g := gb111) (o := .cells #[.int .i64 a0_0, .string a0_1, .slice A0_2 l0_2.length c0_2, .slice (some ad112) l0_3.length c0_3] 25 (0, 0)) (by (with_reducible repeat (first | refine blk_drewN ?_ _ | refine blk_drew ?_ | refine blk_alloc ?_ _)); exact BK111.out) hb); have n1_ := Aside0.mk (below_step (by repeat (first | (with_reducible first | exact HB.out | apply below_alloc | apply pw_below_drewN | apply below_drew1 | refine below_set ?_ GE111.out) | exact HB.out)) hb); clear BK111; clear HB; have BK111 := n0_; have HB := n1_; clear n0_ n1_; (try clear hb); (try clear hb2); (try clear hk); (try clear hi)))
        go_roundg k2
        case measure => have := HJ1.out; have := HK2.out; omega
        case rel => exact ⟨(ji11), (wrap64 (x4_2 + 1)), (by first | rfl | (simp; done) | (simp only [← hji11] <;> (first | rfl | simp)) | (simp [*]; done)), (by first | rfl | (simp; done) | (simp [*]; done) | (simp; rw [Bool.eq_iff_iff]; simp; done)), H', ⟨by have := HJ1.out; have := HK2.out; omega⟩, ⟨by (with_reducible repeat (first | refine blk_drewN ?_ _ | refine blk_drew ?_ | refine blk_alloc ?_ _)); exact BK111.out⟩, ⟨by repeat (first | (with_reducible first | exact HB.out | apply below_alloc | apply pw_below_drewN | apply below_drew1 | refine below_set ?_ GE111.out) | exact HB.out)⟩⟩
       ·
        rw [if_neg c9] at H
        exact absurd H (by simp)
      ·
       rw [if_neg c8] at H
       have c8b0 : decide (x4_2 < (l0_3.length : Int)) = false := decide_eq_false c8
       clear c8
       obtain rfl := Option.some.inj H
       have hcz14_0 : wr.cell? ⟨gb111, 0, none⟩ = some (.int .i64 a0_0) := (blk_cell BK111.out 0).trans rfl
       have hcz14_1 : wr.cell? ⟨gb111, 1, none⟩ = some (.string a0_1) := (blk_cell BK111.out 1).trans rfl
       have hcz14_2 : wr.cell? ⟨gb111, 2, none⟩ = some (.slice A0_2 l0_2.length c0_2) := (blk_cell BK111.out 2).trans rfl
       have hcz14_3 : wr.cell? ⟨gb111, 3, none⟩ = some (.slice A0_3 l0_3.length c0_3) := (blk_cell BK111.out 3).trans rfl
       have hfz14_0 := blk_frozen BK111.out 0
       have hfz14_1 := blk_frozen BK111.out 1
       have hfz14_2 := blk_frozen BK111.out 2
       have hfz14_3 := blk_frozen BK111.out 3
       go_wp2
       go_ret
       exact ⟨by first | rfl | (simp [errW_none, errW_some] <;> rfl) | (simp [*, errW_none, errW_some] <;> rfl), by repeat (first | (with_reducible first | exact HB.out | apply below_alloc | apply pw_below_drewN | apply below_drew1 | refine below_set ?_ GE111.out) | exact HB.out)⟩

/-! ### spec_at: function 45 -/
def spec_at.l0 : Nat → ByteArray → Int → Int → ByteArray → List ByteArray → List (S25) → Option (Int)
 | 0, _, _, _, _, _, _ => none
 | k + 1, x1, x5, x115000, x115001, x115002, x115003 => if x5 ≥ 0 then (if 0 ≤ x5 then (if x5 < (x115002.length : Int) then (if (rdOf ByteArray.empty x115002 x5).toList = x1.toList then (some x5) else (spec_at.l0 k x1 (wrap64 (x5 - 1)) x115000 x115001 x115002 x115003)) else (none)) else (none)) else (some (-1))
def spec_at.f (k : Nat) (a0_0 : Int) (a0_1 : ByteArray) (l0_2 : List ByteArray) (l0_3 : List (S25)) (a1 : ByteArray) : Option (Int) := spec_at.l0 k a1 (wrap64 ((l0_2.length : Int) - 1)) a0_0 a0_1 l0_2 l0_3
theorem spec_at.mono_l : ∀ k, (∀ y0 y1 y2 y3 y4 y5, LeO (spec_at.l0 k y0 y1 y2 y3 y4 y5) (spec_at.l0 (k + 1) y0 y1 y2 y3 y4 y5))
 | 0 => fun _ _ _ _ _ _ r h => by simp [spec_at.l0] at h
 | k + 1 => by
  have ih0 := spec_at.mono_l k
  ·
   intro y0 y1 y2 y3 y4 y5
   unfold spec_at.l0
   repeat' first
   | (with_reducible exact ih0 _ _ _ _ _ _)
   | (with_reducible exact LeO.refl _)
   | (with_reducible exact LeO.none _)
   | (with_reducible refine LeO.ite ?_ ?_)
   | (with_reducible refine LeO.bind ?_ (fun _ => ?_))
   | exact ih0 _ _ _ _ _ _
   | exact LeO.none _
   | refine LeO.ite ?_ ?_
   | refine LeO.bind ?_ (fun _ => ?_)
theorem spec_at.mono : ∀ a0 a1 a2 a3 a4 k, LeO (spec_at.f k a0 a1 a2 a3 a4) (spec_at.f (k + 1) a0 a1 a2 a3 a4) := by
 intro a0 a1 a2 a3 a4 k
 have ih0 := spec_at.mono_l k
 unfold spec_at.f
 repeat' first
   | (with_reducible exact ih0 _ _ _ _ _ _)
   | (with_reducible exact LeO.refl _)
   | (with_reducible exact LeO.none _)
   | (with_reducible refine LeO.ite ?_ ?_)
   | (with_reducible refine LeO.bind ?_ (fun _ => ?_))
   | exact ih0 _ _ _ _ _ _
   | exact LeO.none _
   | refine LeO.ite ?_ ?_
   | refine LeO.bind ?_ (fun _ => ?_)
set_option maxHeartbeats 8000000 in
set_option maxRecDepth 100000 in
theorem spec_at.calls (k : Nat) (a0_0 : Int) (a0_1 : ByteArray) (A0_2 : Option Addr) (c0_2 : Nat) (l0_2 : List ByteArray) (A0_3 : Option Addr) (c0_3 : Nat) (l0_3 : List (S25)) (a1 : ByteArray) (r : Int) (w : World) (hr0_2 : Kd.C Kd.string w A0_2 l0_2.length l0_2) (hc0_2 : l0_2.length ≤ c0_2) (hr0_3 : Kd.C k25 w A0_3 l0_3.length l0_3) (hc0_3 : l0_3.length ≤ c0_3) (h : spec_at.f k a0_0 a0_1 l0_2 l0_3 a1 = some r) :
  Calls Tryd.prog 45 #[.agg #[.int .i64 a0_0, .string a0_1, .slice A0_2 l0_2.length c0_2, .slice A0_3 l0_3.length c0_3], .string a1] w fun e w' => e = .returned (.int .i64 r) ∧ Below w.heap.size w w' := by
 have hu25 := Tryd.underlying25
 have HR0_2 := Aside0.mk hr0_2
 have HC0_2 := Aside0.mk hc0_2
 clear hr0_2 hc0_2
 have HR0_3 := Aside0.mk hr0_3
 have HC0_3 := Aside0.mk hc0_3
 clear hr0_3 hc0_3
 have HB := Aside0.mk (Below.refl w.heap.size w)
 have H : (spec_at.l0 k a1 (wrap64 ((l0_2.length : Int) - 1)) a0_0 a0_1 l0_2 l0_3) = some r := h
 clear h
 have H' := Aside0.mk H
 clear H
 go_enter Tryd.func45, Tryd.ntmps45
 go_wp2_with (first | ((with_reducible refine gate_dst (N := 2) rfl ?_); refine box_event ?hg (N := 2) ?hd (cs := #[.int .i64 a0_0, .string a0_1, .slice A0_2 l0_2.length c0_2, .slice A0_3 l0_3.length c0_3]) (t := 25) ?hr ?_; (case hd => rfl); (case hg => rfl); (case hr => first | (go_simp; done) | (go_simp; rfl)); intro gb114 hg w3 hbox hb; have n0_ := Aside0.mk (below_step (by repeat (first | (with_reducible first | exact HB.out | apply below_alloc | apply pw_below_drewN | apply below_drew1) | exact HB.out)) hb); have n1_ := Aside0.mk (hbox); have n2_ := Aside0.mk ((by rw [hg]; exact (below_size (by repeat (first | (with_reducible first | exact HB.out | apply below_alloc | apply pw_below_drewN | apply below_drew1) | exact HB.out))) : w.heap.size ≤ gb114)); have n3_ := Aside0.mk ((by rw [hg]; exact (below_size (by repeat (first | (with_reducible first | exact HB.out | apply below_alloc | apply pw_below_drewN | apply below_drew1) | exact HB.out))) : w.heap.size ≤ gb114)); clear HB; have HB := n0_; have BK114 := n1_; have GW114 := n2_; have GE114 := n3_; clear n0_ n1_ n2_ n3_; clear hb hbox hg; have hcz4_0 : w3.cell? ⟨gb114, 0, none⟩ = some (.int .i64 a0_0) := (blk_cell BK114.out 0).trans rfl; have hcz4_1 : w3.cell? ⟨gb114, 1, none⟩ = some (.string a0_1) := (blk_cell BK114.out 1).trans rfl; have hcz4_2 : w3.cell? ⟨gb114, 2, none⟩ = some (.slice A0_2 l0_2.length c0_2) := (blk_cell BK114.out 2).trans rfl; have hcz4_3 : w3.cell? ⟨gb114, 3, none⟩ = some (.slice A0_3 l0_3.length c0_3) := (blk_cell BK114.out 3).trans rfl; have hfz4_0 := blk_frozen BK114.out 0; have hfz4_1 := blk_frozen BK114.out 1; have hfz4_2 := blk_frozen BK114.out 2; have hfz4_3 := blk_frozen BK114.out 3))
 try simp only [Act.put, List.setIfInBounds_toArray, List.set_cons_succ, List.set_cons_zero]
 go_loopg [5] k (fun kq v5 w' => ∃ (x5_1 : Int), v5 = .int .i64 x5_1 ∧ Aside0 (spec_at.l0 kq a1 x5_1 a0_0 a0_1 l0_2 l0_3 = some r) ∧ Aside0 (kq ≤ k) ∧ Aside0 (w'.heap[gb114]? = some (.cells #[.int .i64 a0_0, .string a0_1, (.slice A0_2 l0_2.length c0_2), (.slice A0_3 l0_3.length c0_3)] 25 (0, 0))) ∧ Aside0 (Below w.heap.size w w'))
 case atStart => exact ⟨(wrap64 ((l0_2.length : Int) - 1)), (by first | rfl | (simp; done) | (simp [*]; done) | (simp; rw [Bool.eq_iff_iff]; simp; done)), H', ⟨Nat.le_refl _⟩, ⟨by (with_reducible repeat (first | refine blk_drewN ?_ _ | refine blk_drew ?_ | refine blk_alloc ?_ _)); exact BK114.out⟩, ⟨by repeat (first | (with_reducible first | exact HB.out | apply below_alloc | apply pw_below_drewN | apply below_drew1 | refine below_set ?_ GE114.out) | exact HB.out)⟩⟩
 case round =>
  clear H'
  (try clear p2); (try clear c4); (try clear hcz4_0); (try clear hcz4_1); (try clear hcz4_2); (try clear hcz4_3); (try clear hfz4_0); (try clear hfz4_1); (try clear hfz4_2); (try clear hfz4_3)
  obtain ⟨x5_1, rfl, HA, HK1, BK114, HB⟩ := hrel
  cases gk with
  | zero => exact absurd HA.out (by simp [spec_at.l0])
  | succ k1 =>
   have H := HA.out
   clear HA
   simp only [spec_at.l0] at H
   by_cases c5 : x5_1 ≥ 0
   ·
    rw [if_pos c5] at H
    have c5b0 : decide (0 ≤ x5_1) = true := decide_eq_true c5
    clear c5
    by_cases c6 : 0 ≤ x5_1
    ·
     rw [if_pos c6] at H
     have c6b0 : decide (0 ≤ x5_1) = true := decide_eq_true c6
     clear c6
     by_cases c7 : x5_1 < (l0_2.length : Int)
     ·
      rw [if_pos c7] at H
      have c7b0 : decide (x5_1 < (l0_2.length : Int)) = true := decide_eq_true c7
      clear c7
      by_cases c8 : (rdOf ByteArray.empty l0_2 x5_1).toList = a1.toList
      ·
       rw [if_pos c8] at H
       have c8b0 : ((rdOf ByteArray.empty l0_2 x5_1).toList == a1.toList) = true := beq_iff_eq.mpr c8
       have c8b1 : ((rdOf ByteArray.empty l0_2 x5_1).toList != a1.toList) = false := bne_eq_false_iff_eq.mpr c8
       clear c8
       obtain rfl := Option.some.inj H
       have hcz9_0 : wr.cell? ⟨gb114, 0, none⟩ = some (.int .i64 a0_0) := (blk_cell BK114.out 0).trans rfl
       have hcz9_1 : wr.cell? ⟨gb114, 1, none⟩ = some (.string a0_1) := (blk_cell BK114.out 1).trans rfl
       have hcz9_2 : wr.cell? ⟨gb114, 2, none⟩ = some (.slice A0_2 l0_2.length c0_2) := (blk_cell BK114.out 2).trans rfl
       have hcz9_3 : wr.cell? ⟨gb114, 3, none⟩ = some (.slice A0_3 l0_3.length c0_3) := (blk_cell BK114.out 3).trans rfl
       have hfz9_0 := blk_frozen BK114.out 0
       have hfz9_1 := blk_frozen BK114.out 1
       have hfz9_2 := blk_frozen BK114.out 2
       have hfz9_3 := blk_frozen BK114.out 3
       have p115 : 0 ≤ (x5_1 : Int) := of_decide_eq_true (by first | (with_reducible assumption) | assumption)
       have q115 : x5_1 < (l0_2.length : Int) := of_decide_eq_true (by first | (with_reducible assumption) | assumption)
       obtain ⟨ad115, e115, hx115_0⟩ := Kd.at_string HR0_2.out x5_1 p115 q115
       cases e115
       replace hx115_0 := (HB.out.cell (World.block_lt_of_cell? w _ hx115_0)).trans hx115_0
       replace p115 := eq_true p115
       replace q115 := eq_true q115
       go_wp2
       go_ret
       exact ⟨by first | rfl | (simp [errW_none, errW_some] <;> rfl) | (simp [*, errW_none, errW_some] <;> rfl), by repeat (first | (with_reducible first | exact HB.out | apply below_alloc | apply pw_below_drewN | apply below_drew1 | refine below_set ?_ GE114.out) | exact HB.out)⟩
      ·
       rw [if_neg c8] at H
       have c8b0 : ((rdOf ByteArray.empty l0_2 x5_1).toList == a1.toList) = false := beq_eq_false_iff_ne.mpr c8
       have c8b1 : ((rdOf ByteArray.empty l0_2 x5_1).toList != a1.toList) = true := bne_iff_ne.mpr c8
       have H' := Aside0.mk H
       clear H
       have hcz10_0 : wr.cell? ⟨gb114, 0, none⟩ = some (.int .i64 a0_0) := (blk_cell BK114.out 0).trans rfl
       have hcz10_1 : wr.cell? ⟨gb114, 1, none⟩ = some (.string a0_1) := (blk_cell BK114.out 1).trans rfl
       have hcz10_2 : wr.cell? ⟨gb114, 2, none⟩ = some (.slice A0_2 l0_2.length c0_2) := (blk_cell BK114.out 2).trans rfl
       have hcz10_3 : wr.cell? ⟨gb114, 3, none⟩ = some (.slice A0_3 l0_3.length c0_3) := (blk_cell BK114.out 3).trans rfl
       have hfz10_0 := blk_frozen BK114.out 0
       have hfz10_1 := blk_frozen BK114.out 1
       have hfz10_2 := blk_frozen BK114.out 2
       have hfz10_3 := blk_frozen BK114.out 3
       have p115 : 0 ≤ (x5_1 : Int) := of_decide_eq_true (by first | (with_reducible assumption) | assumption)
       have q115 : x5_1 < (l0_2.length : Int) := of_decide_eq_true (by first | (with_reducible assumption) | assumption)
       obtain ⟨ad115, e115, hx115_0⟩ := Kd.at_string HR0_2.out x5_1 p115 q115
       cases e115
       replace hx115_0 := (HB.out.cell (World.block_lt_of_cell? w _ hx115_0)).trans hx115_0
       replace p115 := eq_true p115
       replace q115 := eq_true q115
       go_wp2
       go_roundg k1
       case measure => have := HK1.out; omega
       case rel => exact ⟨(wrap64 (x5_1 - 1)), (by first | rfl | (simp; done) | (simp [*]; done) | (simp; rw [Bool.eq_iff_iff]; simp; done)), H', ⟨by have := HK1.out; omega⟩, ⟨by (with_reducible repeat (first | refine blk_drewN ?_ _ | refine blk_drew ?_ | refine blk_alloc ?_ _)); exact BK114.out⟩, ⟨by repeat (first | (with_reducible first | exact HB.out | apply below_alloc | apply pw_below_drewN | apply below_drew1 | refine below_set ?_ GE114.out) | exact HB.out)⟩⟩
     ·
      rw [if_neg c7] at H
      exact absurd H (by simp)
    ·
     rw [if_neg c6] at H
     exact absurd H (by simp)
   ·
    rw [if_neg c5] at H
    have c5b0 : decide (0 ≤ x5_1) = false := decide_eq_false c5
    clear c5
    obtain rfl := Option.some.inj H
    go_wp2
    go_ret
    exact ⟨by first | rfl | (simp [errW_none, errW_some] <;> rfl) | (simp [*, errW_none, errW_some] <;> rfl), by repeat (first | (with_reducible first | exact HB.out | apply below_alloc | apply pw_below_drewN | apply below_drew1 | refine below_set ?_ GE114.out) | exact HB.out)⟩

end Go.Proofs.YtdjogkfgegopfaaDoor.MFnPaMergeAgain
