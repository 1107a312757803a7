/- What Go functions compute, as functions of numbers and lists, and the walks that show it. No condition. Written by a program (wip/tools/mprint.py) over the kit's print. -/
import Derived.Test.YtdjogkfgegopfaaDoorMFnPaMergeAgain0
import Derived.Test.YtdjogkfgegopfaaDoorMFnPaMergeAgain2
import Derived.Test.YtdjogkfgegopfaaDoorMFnPaMergeAgain3
import Derived.Test.YtdjogkfgegopfaaDoorMFnPaMergeAgain4
import Derived.Test.YtdjogkfgegopfaaDoorMFnPaMergeAgain5
namespace Go.Proofs.YtdjogkfgegopfaaDoor.MFnPaMergeAgain
open Go.RowKit Go.Proofs.YtdjogkfgegopfaaDoorW.PrintWords Go.Proofs.YtdjogkfgegopfaaDoorW.PrintLast Go.Proofs.YtdjogkfgegopfaaDoorW.PrintMore
attribute [local go_sem] max2_int min2_int max_two min_two max_three min_three max_four min_four   -- for this text's walks alone
set_option linter.unusedVariables false
set_option linter.unusedSimpArgs false

/-! ### spec_AllUTF8: function 29 -/
mutual
def spec_AllUTF8.l0 : Nat → Int → Int → ByteArray → List ByteArray → List (S25) → Option (Bool)
 | 0, _, _, _, _, _ => none
 | k + 1, x3, x127000, x127001, x127002, x127003 => if x3 < (x127002.length : Int) then (if 0 ≤ x3 then ((spec_UTF8.f k (rdOf ByteArray.empty x127002 x3)).bind fun t129 => (if t129 = true then (spec_AllUTF8.l0 k (wrap64 (x3 + 1)) x127000 x127001 x127002 x127003) else (some false))) else (none)) else (spec_AllUTF8.l1 k 0 x127000 x127001 x127002 x127003)
def spec_AllUTF8.l1 : Nat → Int → Int → ByteArray → List ByteArray → List (S25) → Option (Bool)
 | 0, _, _, _, _, _ => none
 | k + 1, x4, x127000, x127001, x127002, x127003 => if x4 < (x127003.length : Int) then (if 0 ≤ x4 then ((spec_AllUTF8.f k ((rd_T25 x127003 x4).f0) ((rd_T25 x127003 x4).f1) ((rd_T25 x127003 x4).f2) ((rd_T25 x127003 x4).f3)).bind fun t131 => (if t131 = true then (spec_AllUTF8.l1 k (wrap64 (x4 + 1)) x127000 x127001 x127002 x127003) else (some false))) else (none)) else (some true)
def spec_AllUTF8.f : Nat → Int → ByteArray → List ByteArray → List (S25) → Option (Bool)
 | 0, _, _, _, _ => none
 | k + 1, a0_0, a0_1, l0_2, l0_3 => (spec_UTF8.f k a0_1).bind fun t127 => (if t127 = true then (spec_AllUTF8.l0 k 0 a0_0 a0_1 l0_2 l0_3) else (some false))
end
theorem spec_AllUTF8.mono_l : ∀ k, (∀ y0 y1 y2 y3, LeO (spec_AllUTF8.f k y0 y1 y2 y3) (spec_AllUTF8.f (k + 1) y0 y1 y2 y3)) ∧ (∀ y0 y1 y2 y3 y4, LeO (spec_AllUTF8.l0 k y0 y1 y2 y3 y4) (spec_AllUTF8.l0 (k + 1) y0 y1 y2 y3 y4)) ∧ (∀ y0 y1 y2 y3 y4, LeO (spec_AllUTF8.l1 k y0 y1 y2 y3 y4) (spec_AllUTF8.l1 (k + 1) y0 y1 y2 y3 y4))
 | 0 => ⟨fun _ _ _ _ r h => by simp [spec_AllUTF8.f] at h, fun _ _ _ _ _ r h => by simp [spec_AllUTF8.l0] at h, fun _ _ _ _ _ r h => by simp [spec_AllUTF8.l1] at h⟩
 | k + 1 => by
  obtain ⟨ih0, ih1, ih2⟩ := spec_AllUTF8.mono_l k
  refine ⟨?_, ?_, ?_⟩
  ·
   intro y0 y1 y2 y3
   unfold spec_AllUTF8.f
   repeat' first
   | (with_reducible exact ih0 _ _ _ _)
   | (with_reducible exact ih1 _ _ _ _ _)
   | (with_reducible exact ih2 _ _ _ _ _)
   | (with_reducible exact spec_UTF8.mono _ _)
   | (with_reducible exact LeO.refl _)
   | (with_reducible exact LeO.none _)
   | (with_reducible refine LeO.ite ?_ ?_)
   | (with_reducible refine LeO.bind ?_ (fun _ => ?_))
   | exact ih0 _ _ _ _
   | exact ih1 _ _ _ _ _
   | exact ih2 _ _ _ _ _
   | exact spec_UTF8.mono _ _
   | exact LeO.none _
   | refine LeO.ite ?_ ?_
   | refine LeO.bind ?_ (fun _ => ?_)
  ·
   intro y0 y1 y2 y3 y4
   unfold spec_AllUTF8.l0
   repeat' first
   | (with_reducible exact ih0 _ _ _ _)
   | (with_reducible exact ih1 _ _ _ _ _)
   | (with_reducible exact ih2 _ _ _ _ _)
   | (with_reducible exact spec_UTF8.mono _ _)
   | (with_reducible exact LeO.refl _)
   | (with_reducible exact LeO.none _)
   | (with_reducible refine LeO.ite ?_ ?_)
   | (with_reducible refine LeO.bind ?_ (fun _ => ?_))
   | exact ih0 _ _ _ _
   | exact ih1 _ _ _ _ _
   | exact ih2 _ _ _ _ _
   | exact spec_UTF8.mono _ _
   | exact LeO.none _
   | refine LeO.ite ?_ ?_
   | refine LeO.bind ?_ (fun _ => ?_)
  ·
   intro y0 y1 y2 y3 y4
   unfold spec_AllUTF8.l1
   repeat' first
   | (with_reducible exact ih0 _ _ _ _)
   | (with_reducible exact ih1 _ _ _ _ _)
   | (with_reducible exact ih2 _ _ _ _ _)
   | (with_reducible exact spec_UTF8.mono _ _)
   | (with_reducible exact LeO.refl _)
   | (with_reducible exact LeO.none _)
   | (with_reducible refine LeO.ite ?_ ?_)
   | (with_reducible refine LeO.bind ?_ (fun _ => ?_))
   | exact ih0 _ _ _ _
   | exact ih1 _ _ _ _ _
   | exact ih2 _ _ _ _ _
   | exact spec_UTF8.mono _ _
   | exact LeO.none _
   | refine LeO.ite ?_ ?_
   | refine LeO.bind ?_ (fun _ => ?_)
theorem spec_AllUTF8.mono : ∀ a0 a1 a2 a3 k, LeO (spec_AllUTF8.f k a0 a1 a2 a3) (spec_AllUTF8.f (k + 1) a0 a1 a2 a3) := by
 intro a0 a1 a2 a3 k
 obtain ⟨ih0, ih1, ih2⟩ := spec_AllUTF8.mono_l k
 exact ih0 a0 a1 a2 a3
set_option maxHeartbeats 8000000 in
set_option maxRecDepth 100000 in
theorem spec_AllUTF8.calls (k : Nat) : ∀ (a0_0 : Int) (a0_1 : ByteArray) (A0_2 : Option Addr) (c0_2 : Nat) (l0_2 : List ByteArray) (A0_3 : Option Addr) (c0_3 : Nat) (l0_3 : List (S25)) (r : Bool) (w : World) (hr0_2 : Kd.C Kd.string w A0_2 l0_2.length l0_2) (hc0_2 : l0_2.length ≤ c0_2) (hr0_3 : Kd.C k25 w A0_3 l0_3.length l0_3) (hc0_3 : l0_3.length ≤ c0_3) (h : spec_AllUTF8.f k a0_0 a0_1 l0_2 l0_3 = some r),
  Calls Tryd.prog 29 #[.agg #[.int .i64 a0_0, .string a0_1, .slice A0_2 l0_2.length c0_2, .slice A0_3 l0_3.length c0_3]] w fun e w' => e = .returned (.bool r) ∧ Below w.heap.size w w' := by
 induction k using Nat.strongRecOn with
 | _ k ih =>
 intro a0_0 a0_1 A0_2 c0_2 l0_2 A0_3 c0_3 l0_3 r w hr0_2 hc0_2 hr0_3 hc0_3 h
 cases k with
 | zero => exact absurd h (by simp [spec_AllUTF8.f])
 | succ k =>
 simp only [spec_AllUTF8.f] at h
 have hu25 := Tryd.underlying25
 have HR0_2 := Aside0.mk hr0_2
 have HC0_2 := Aside0.mk hc0_2
 clear hr0_2 hc0_2
 have HR0_3 := Aside0.mk hr0_3
 have HC0_3 := Aside0.mk hc0_3
 clear hr0_3 hc0_3
 have HB := Aside0.mk (Below.refl w.heap.size w)
 have H : ((spec_UTF8.f k a0_1).bind fun t127 => (if t127 = true then (spec_AllUTF8.l0 k 0 a0_0 a0_1 l0_2 l0_3) else (some false))) = some r := h
 clear h
 replace H := Option.bind_eq_some_iff.mp H
 obtain ⟨t127, A20, H⟩ := H
 replace H : (if t127 = true then (spec_AllUTF8.l0 k 0 a0_0 a0_1 l0_2 l0_3) else (some false)) = some r := H
 have A2 := Aside0.mk A20
 clear A20
 by_cases c3 : t127 = true
 ·
  subst c3
  have H1 : (spec_AllUTF8.l0 k 0 a0_0 a0_1 l0_2 l0_3) = some r := by rw [if_pos rfl] at H; exact H
  clear H
  have H := H1
  clear H1
  have H' := Aside0.mk H
  clear H
  go_enter Tryd.func29, Tryd.ntmps29
  go_wp2_with (first | ((with_reducible refine gate_dst (N := 1) rfl ?_); refine box_event ?hg (N := 1) ?hd (cs := #[.int .i64 a0_0, .string a0_1, .slice A0_2 l0_2.length c0_2, .slice A0_3 l0_3.length c0_3]) (t := 25) ?hr ?_; (case hd => rfl); (case hg => rfl); (case hr => first | (go_simp; done) | (go_simp; rfl)); intro gb126 hg w4 hbox hb; have n0_ := Aside0.mk (below_step (by repeat (first | (with_reducible first | exact HB.out | apply below_alloc | apply pw_below_drewN | apply below_drew1) | exact HB.out)) hb); have n1_ := Aside0.mk (hbox); have n2_ := Aside0.mk ((by rw [hg]; exact (below_size (by repeat (first | (with_reducible first | exact HB.out | apply below_alloc | apply pw_below_drewN | apply below_drew1) | exact HB.out))) : w.heap.size ≤ gb126)); have n3_ := Aside0.mk ((by rw [hg]; exact (below_size (by repeat (first | (with_reducible first | exact HB.out | apply below_alloc | apply pw_below_drewN | apply below_drew1) | exact HB.out))) : w.heap.size ≤ gb126)); clear HB; have HB := n0_; have BK126 := n1_; have GW126 := n2_; have GE126 := n3_; clear n0_ n1_ n2_ n3_; clear hb hbox hg; have hcz5_0 : w4.cell? ⟨gb126, 0, none⟩ = some (.int .i64 a0_0) := (blk_cell BK126.out 0).trans rfl; have hcz5_1 : w4.cell? ⟨gb126, 1, none⟩ = some (.string a0_1) := (blk_cell BK126.out 1).trans rfl; have hcz5_2 : w4.cell? ⟨gb126, 2, none⟩ = some (.slice A0_2 l0_2.length c0_2) := (blk_cell BK126.out 2).trans rfl; have hcz5_3 : w4.cell? ⟨gb126, 3, none⟩ = some (.slice A0_3 l0_3.length c0_3) := (blk_cell BK126.out 3).trans rfl; have hfz5_0 := blk_frozen BK126.out 0; have hfz5_1 := blk_frozen BK126.out 1; have hfz5_2 := blk_frozen BK126.out 2; have hfz5_3 := blk_frozen BK126.out 3) | ((with_reducible refine gate_callee (f := 23) rfl ?_); refine goesL_ (some 7) rfl rfl Tryd.func23 (by kernel_rfl) rfl #[.string a0_1] rfl (by (try simp only [List.map_toArray, List.map_cons, List.map_nil]); first | done | rfl | (simp only [List.length_drop, List.length_take]; rfl)) ?_; (with_reducible refine (spec_UTF8.calls k a0_1 true _ A2.out).mono ?_); rintro e w' ⟨rfl, ⟨nd, rfl⟩⟩; refine ⟨_, rfl, ?_⟩))
  try simp only [Act.put, List.setIfInBounds_toArray, List.set_cons_succ, List.set_cons_zero]
  go_loopg [3] k (fun kq v3 w' => ∃ (x3_1 : Int), v3 = .int .i64 x3_1 ∧ Aside0 (spec_AllUTF8.l0 kq x3_1 a0_0 a0_1 l0_2 l0_3 = some r) ∧ Aside0 (kq ≤ k) ∧ Aside0 (w'.heap[gb126]? = some (.cells #[.int .i64 a0_0, .string a0_1, (.slice A0_2 l0_2.length c0_2), (.slice A0_3 l0_3.length c0_3)] 25 (0, 0))) ∧ Aside0 (Below w.heap.size w w'))
  case atStart => exact ⟨(0), (by first | rfl | (simp; done) | (simp [*]; done) | (simp; rw [Bool.eq_iff_iff]; simp; done)), H', ⟨Nat.le_refl _⟩, ⟨by (with_reducible repeat (first | refine blk_drewN ?_ _ | refine blk_drew ?_ | refine blk_alloc ?_ _)); exact BK126.out⟩, ⟨by repeat (first | (with_reducible first | exact HB.out | apply below_alloc | apply pw_below_drewN | apply below_drew1 | refine below_set ?_ GE126.out) | exact HB.out)⟩⟩
  case round =>
   clear H'
   (try clear c2); (try clear p2); (try clear c3); (try clear hcz5_0); (try clear hcz5_1); (try clear hcz5_2); (try clear hcz5_3); (try clear hfz5_0); (try clear hfz5_1); (try clear hfz5_2); (try clear hfz5_3)
   obtain ⟨x3_1, rfl, HA, HK1, BK126, HB⟩ := hrel
   cases gk with
   | zero => exact absurd HA.out (by simp [spec_AllUTF8.l0])
   | succ k1 =>
    have H := HA.out
    clear HA
    simp only [spec_AllUTF8.l0] at H
    by_cases c6 : x3_1 < (l0_2.length : Int)
    ·
     rw [if_pos c6] at H
     have c6b0 : decide (x3_1 < (l0_2.length : Int)) = true := decide_eq_true c6
     clear c6
     by_cases c7 : 0 ≤ x3_1
     ·
      rw [if_pos c7] at H
      have c7b0 : decide (0 ≤ x3_1) = true := decide_eq_true c7
      clear c7
      replace H := Option.bind_eq_some_iff.mp H
      obtain ⟨t129, A80, H⟩ := H
      replace H : (if t129 = true then (spec_AllUTF8.l0 k1 (wrap64 (x3_1 + 1)) a0_0 a0_1 l0_2 l0_3) else (some false)) = some r := H
      have A8 := Aside0.mk A80
      clear A80
      by_cases c9 : t129 = true
      ·
       subst c9
       have H1 : (spec_AllUTF8.l0 k1 (wrap64 (x3_1 + 1)) a0_0 a0_1 l0_2 l0_3) = some r := by rw [if_pos rfl] at H; exact H
       clear H
       have H := H1
       clear H1
       have H' := Aside0.mk H
       clear H
       have hcz10_0 : wr.cell? ⟨gb126, 0, none⟩ = some (.int .i64 a0_0) := (blk_cell BK126.out 0).trans rfl
       have hcz10_1 : wr.cell? ⟨gb126, 1, none⟩ = some (.string a0_1) := (blk_cell BK126.out 1).trans rfl
       have hcz10_2 : wr.cell? ⟨gb126, 2, none⟩ = some (.slice A0_2 l0_2.length c0_2) := (blk_cell BK126.out 2).trans rfl
       have hcz10_3 : wr.cell? ⟨gb126, 3, none⟩ = some (.slice A0_3 l0_3.length c0_3) := (blk_cell BK126.out 3).trans rfl
       have hfz10_0 := blk_frozen BK126.out 0
       have hfz10_1 := blk_frozen BK126.out 1
       have hfz10_2 := blk_frozen BK126.out 2
       have hfz10_3 := blk_frozen BK126.out 3
       have p128 : 0 ≤ (x3_1 : Int) := of_decide_eq_true (by first | (with_reducible assumption) | assumption)
       have q128 : x3_1 < (l0_2.length : Int) := of_decide_eq_true (by first | (with_reducible assumption) | assumption)
       obtain ⟨ad128, e128, hx128_0⟩ := Kd.at_string HR0_2.out x3_1 p128 q128
       cases e128
       replace hx128_0 := (HB.out.cell (World.block_lt_of_cell? w _ hx128_0)).trans hx128_0
       replace p128 := eq_true p128
       replace q128 := eq_true q128
       go_wp2_with (first | ((with_reducible refine gate_callee (f := 23) rfl ?_); refine goesL_ (some 21) rfl rfl Tryd.func23 (by kernel_rfl) rfl #[.string (rdOf ByteArray.empty l0_2 x3_1)] rfl (by (try simp only [List.map_toArray, List.map_cons, List.map_nil]); first | done | rfl | (simp only [List.length_drop, List.length_take]; rfl)) ?_; (with_reducible refine (spec_UTF8.calls k1 (rdOf ByteArray.empty l0_2 x3_1) true _ A8.out).mono ?_); rintro e w' ⟨rfl, ⟨nd, rfl⟩⟩; refine ⟨_, rfl, ?_⟩))
       go_roundg k1
       case measure => have := HK1.out; omega
       case rel => exact ⟨(wrap64 (x3_1 + 1)), (by first | rfl | (simp; done) | (simp [*]; done) | (simp; rw [Bool.eq_iff_iff]; simp; done)), H', ⟨by have := HK1.out; omega⟩, ⟨by (with_reducible repeat (first | refine blk_drewN ?_ _ | refine blk_drew ?_ | refine blk_alloc ?_ _)); exact BK126.out⟩, ⟨by repeat (first | (with_reducible first | exact HB.out | apply below_alloc | apply pw_below_drewN | apply below_drew1 | refine below_set ?_ GE126.out) | exact HB.out)⟩⟩
      ·
       replace c9 := Bool.eq_false_iff.mpr c9
       subst c9
       have H1 : (some false) = some r := by rw [if_neg (show ¬ (false = true) by decide)] at H; exact H
       clear H
       have H := H1
       clear H1
       obtain rfl := Option.some.inj H
       have hcz11_0 : wr.cell? ⟨gb126, 0, none⟩ = some (.int .i64 a0_0) := (blk_cell BK126.out 0).trans rfl
       have hcz11_1 : wr.cell? ⟨gb126, 1, none⟩ = some (.string a0_1) := (blk_cell BK126.out 1).trans rfl
       have hcz11_2 : wr.cell? ⟨gb126, 2, none⟩ = some (.slice A0_2 l0_2.length c0_2) := (blk_cell BK126.out 2).trans rfl
       have hcz11_3 : wr.cell? ⟨gb126, 3, none⟩ = some (.slice A0_3 l0_3.length c0_3) := (blk_cell BK126.out 3).trans rfl
       have hfz11_0 := blk_frozen BK126.out 0
       have hfz11_1 := blk_frozen BK126.out 1
       have hfz11_2 := blk_frozen BK126.out 2
       have hfz11_3 := blk_frozen BK126.out 3
       have p128 : 0 ≤ (x3_1 : Int) := of_decide_eq_true (by first | (with_reducible assumption) | assumption)
       have q128 : x3_1 < (l0_2.length : Int) := of_decide_eq_true (by first | (with_reducible assumption) | assumption)
       obtain ⟨ad128, e128, hx128_0⟩ := Kd.at_string HR0_2.out x3_1 p128 q128
       cases e128
       replace hx128_0 := (HB.out.cell (World.block_lt_of_cell? w _ hx128_0)).trans hx128_0
       replace p128 := eq_true p128
       replace q128 := eq_true q128
       go_wp2_with (first | ((with_reducible refine gate_callee (f := 23) rfl ?_); refine goesL_ (some 21) rfl rfl Tryd.func23 (by kernel_rfl) rfl #[.string (rdOf ByteArray.empty l0_2 x3_1)] rfl (by (try simp only [List.map_toArray, List.map_cons, List.map_nil]); first | done | rfl | (simp only [List.length_drop, List.length_take]; rfl)) ?_; (with_reducible refine (spec_UTF8.calls k1 (rdOf ByteArray.empty l0_2 x3_1) false _ A8.out).mono ?_); rintro e w' ⟨rfl, ⟨nd, rfl⟩⟩; refine ⟨_, rfl, ?_⟩))
       go_ret
       exact ⟨by first | rfl | (simp [errW_none, errW_some] <;> rfl) | (simp [*, errW_none, errW_some] <;> rfl), by repeat (first | (with_reducible first | exact HB.out | apply below_alloc | apply pw_below_drewN | apply below_drew1 | refine below_set ?_ GE126.out) | exact HB.out)⟩
     ·
      rw [if_neg c7] at H
      exact absurd H (by simp)
    ·
     rw [if_neg c6] at H
     have c6b0 : decide (x3_1 < (l0_2.length : Int)) = false := decide_eq_false c6
     clear c6
     have H' := Aside0.mk H
     clear H
     have hcz12_0 : wr.cell? ⟨gb126, 0, none⟩ = some (.int .i64 a0_0) := (blk_cell BK126.out 0).trans rfl
     have hcz12_1 : wr.cell? ⟨gb126, 1, none⟩ = some (.string a0_1) := (blk_cell BK126.out 1).trans rfl
     have hcz12_2 : wr.cell? ⟨gb126, 2, none⟩ = some (.slice A0_2 l0_2.length c0_2) := (blk_cell BK126.out 2).trans rfl
     have hcz12_3 : wr.cell? ⟨gb126, 3, none⟩ = some (.slice A0_3 l0_3.length c0_3) := (blk_cell BK126.out 3).trans rfl
     have hfz12_0 := blk_frozen BK126.out 0
     have hfz12_1 := blk_frozen BK126.out 1
     have hfz12_2 := blk_frozen BK126.out 2
     have hfz12_3 := blk_frozen BK126.out 3
     go_wp2
     try simp only [Act.put, List.setIfInBounds_toArray, List.set_cons_succ, List.set_cons_zero]
     go_loopg [4] k1 (fun kq v4 w' => ∃ (x4_2 : Int), v4 = .int .i64 x4_2 ∧ Aside0 (spec_AllUTF8.l1 kq x4_2 a0_0 a0_1 l0_2 l0_3 = some r) ∧ Aside0 (kq ≤ k1) ∧ Aside0 (w'.heap[gb126]? = some (.cells #[.int .i64 a0_0, .string a0_1, (.slice A0_2 l0_2.length c0_2), (.slice A0_3 l0_3.length c0_3)] 25 (0, 0))) ∧ Aside0 (Below w.heap.size w w'))
     case atStart => exact ⟨(0), (by first | rfl | (simp; done) | (simp [*]; done) | (simp; rw [Bool.eq_iff_iff]; simp; done)), H', ⟨Nat.le_refl _⟩, ⟨by (with_reducible repeat (first | refine blk_drewN ?_ _ | refine blk_drew ?_ | refine blk_alloc ?_ _)); exact BK126.out⟩, ⟨by repeat (first | (with_reducible first | exact HB.out | apply below_alloc | apply pw_below_drewN | apply below_drew1 | refine below_set ?_ GE126.out) | exact HB.out)⟩⟩
     case round =>
      clear H'
      (try clear p1); (try clear q1); (try clear hx1); (try clear c2); (try clear p2); (try clear c3); (try clear c6); (try clear c6b0); (try clear p6); (try clear c7); (try clear c7b0); (try clear c9); (try clear p12); (try clear q12); (try clear hx12); (try clear hcz10_0); (try clear hcz10_1); (try clear hcz10_2); (try clear hcz10_3); (try clear hcz11_0); (try clear hcz11_1); (try clear hcz11_2); (try clear hcz11_3); (try clear hcz12_0); (try clear hcz12_1); (try clear hcz12_2); (try clear hcz12_3); (try clear hcz5_0); (try clear hcz5_1); (try clear hcz5_2); (try clear hcz5_3); (try clear hfz10_0); (try clear hfz10_1); (try clear hfz10_2); (try clear hfz10_3); (try clear hfz11_0); (try clear hfz11_1); (try clear hfz11_2); (try clear hfz11_3); (try clear hfz12_0); (try clear hfz12_1); (try clear hfz12_2); (try clear hfz12_3); (try clear hfz5_0); (try clear hfz5_1); (try clear hfz5_2); (try clear hfz5_3); (try clear hx128_0); (try clear p128); (try clear p2); (try clear q128)
      obtain ⟨x4_2, rfl, HA, HK2, BK126, HB⟩ := hrel
      cases gk with
      | zero => exact absurd HA.out (by simp [spec_AllUTF8.l1])
      | succ k2 =>
       have H := HA.out
       clear HA
       simp only [spec_AllUTF8.l1] at H
       by_cases c13 : x4_2 < (l0_3.length : Int)
       ·
        rw [if_pos c13] at H
        have c13b0 : decide (x4_2 < (l0_3.length : Int)) = true := decide_eq_true c13
        clear c13
        by_cases c14 : 0 ≤ x4_2
        ·
         rw [if_pos c14] at H
         have c14b0 : decide (0 ≤ x4_2) = true := decide_eq_true c14
         clear c14
         replace H := Option.bind_eq_some_iff.mp H
         obtain ⟨t131, A150, H⟩ := H
         replace H : (if t131 = true then (spec_AllUTF8.l1 k2 (wrap64 (x4_2 + 1)) a0_0 a0_1 l0_2 l0_3) else (some false)) = some r := H
         have A15 := Aside0.mk A150
         clear A150
         by_cases c16 : t131 = true
         ·
          subst c16
          have H1 : (spec_AllUTF8.l1 k2 (wrap64 (x4_2 + 1)) a0_0 a0_1 l0_2 l0_3) = some r := by rw [if_pos rfl] at H; exact H
          clear H
          have H := H1
          clear H1
          have H' := Aside0.mk H
          clear H
          have hcz17_0 : wr.cell? ⟨gb126, 0, none⟩ = some (.int .i64 a0_0) := (blk_cell BK126.out 0).trans rfl
          have hcz17_1 : wr.cell? ⟨gb126, 1, none⟩ = some (.string a0_1) := (blk_cell BK126.out 1).trans rfl
          have hcz17_2 : wr.cell? ⟨gb126, 2, none⟩ = some (.slice A0_2 l0_2.length c0_2) := (blk_cell BK126.out 2).trans rfl
          have hcz17_3 : wr.cell? ⟨gb126, 3, none⟩ = some (.slice A0_3 l0_3.length c0_3) := (blk_cell BK126.out 3).trans rfl
          have hfz17_0 := blk_frozen BK126.out 0
          have hfz17_1 := blk_frozen BK126.out 1
          have hfz17_2 := blk_frozen BK126.out 2
          have hfz17_3 := blk_frozen BK126.out 3
          have p130 : 0 ≤ (x4_2 : Int) := of_decide_eq_true (by first | (with_reducible assumption) | assumption)
          have q130 : x4_2 < (l0_3.length : Int) := of_decide_eq_true (by first | (with_reducible assumption) | assumption)
          obtain ⟨ad130, A130_2, c130_2, A130_3, c130_3, e130, hx130_0, hx130_1, hx130_2, hx130_3, hl130_2, hi130_2, hl130_3, hi130_3⟩ := at_T25 HR0_3.out x4_2 p130 q130
          cases e130
          replace hx130_0 := (HB.out.cell (World.block_lt_of_cell? w _ hx130_0)).trans hx130_0
          replace hx130_1 := (HB.out.cell (World.block_lt_of_cell? w _ hx130_1)).trans hx130_1
          replace hx130_2 := (HB.out.cell (World.block_lt_of_cell? w _ hx130_2)).trans hx130_2
          replace hx130_3 := (HB.out.cell (World.block_lt_of_cell? w _ hx130_3)).trans hx130_3
          have HR130_2 := Aside0.mk hi130_2
          have HC130_2 := Aside0.mk hl130_2
          clear hi130_2 hl130_2
          have HR130_3 := Aside0.mk hi130_3
          have HC130_3 := Aside0.mk hl130_3
          clear hi130_3 hl130_3
          replace p130 := eq_true p130
          replace q130 := eq_true q130
          go_wp2_with (first | ((with_reducible refine gate_callee (f := 29) rfl ?_); refine goesL_ (some 35) rfl rfl Tryd.func29 (by kernel_rfl) rfl #[.agg #[.int .i64 ((rd_T25 l0_3 x4_2).f0), .string ((rd_T25 l0_3 x4_2).f1), .slice A130_2 ((rd_T25 l0_3 x4_2).f2).length c130_2, .slice A130_3 ((rd_T25 l0_3 x4_2).f3).length c130_3]] rfl (by (try simp only [List.map_toArray, List.map_cons, List.map_nil]); first | done | rfl | (simp only [List.length_drop, List.length_take]; rfl)) ?_; (with_reducible refine (ih k2 (by have := HK1.out; have := HK2.out; omega) ((rd_T25 l0_3 x4_2).f0) ((rd_T25 l0_3 x4_2).f1) _ _ ((rd_T25 l0_3 x4_2).f2) _ _ ((rd_T25 l0_3 x4_2).f3) true _ ?side1 ?side2 ?side3 ?side4 A15.out).mono ?_); (case side1 => repeat (first | exact (Kd.C_below HR130_2.out HB.out) | (with_reducible refine Kd.C_alloc ?_ _) | (with_reducible refine Kd.C_drewN ?_ _) | (with_reducible refine Kd.C_drew ?_))); (case side2 => exact HC130_2.out); (case side3 => repeat (first | exact (Kd.C_below HR130_3.out HB.out) | (with_reducible refine Kd.C_alloc ?_ _) | (with_reducible refine Kd.C_drewN ?_ _) | (with_reducible refine Kd.C_drew ?_))); (case side4 => exact HC130_3.out); rintro e w18 ⟨rfl, hb⟩; refine ⟨_, rfl, ?_⟩; have n0_ := Aside0.mk (blk_below (g := gb126) (o := .cells #[.int .i64 a0_0, .string a0_1, .slice A0_2 l0_2.length c0_2, .slice (some ad130) l0_3.length c0_3] 25 (0, 0)) (by (with_reducible repeat (first | refine blk_drewN ?_ _ | refine blk_drew ?_ | refine blk_alloc ?_ _)); exact BK126.out) hb); have n1_ := Aside0.mk (below_step (by repeat (first | (with_reducible first | exact HB.out | apply below_alloc | apply pw_below_drewN | apply below_drew1 | refine below_set ?_ GE126.out) | exact HB.out)) hb); clear BK126; clear HB; have BK126 := n0_; have HB := n1_; clear n0_ n1_; (try clear hb); (try clear hb2); (try clear hk); (try clear hi)))
          go_roundg k2
          case measure => have := HK1.out; have := HK2.out; omega
          case rel => exact ⟨(wrap64 (x4_2 + 1)), (by first | rfl | (simp; done) | (simp [*]; done) | (simp; rw [Bool.eq_iff_iff]; simp; done)), H', ⟨by have := HK1.out; have := HK2.out; omega⟩, ⟨by (with_reducible repeat (first | refine blk_drewN ?_ _ | refine blk_drew ?_ | refine blk_alloc ?_ _)); exact BK126.out⟩, ⟨by repeat (first | (with_reducible first | exact HB.out | apply below_alloc | apply pw_below_drewN | apply below_drew1 | refine below_set ?_ GE126.out) | exact HB.out)⟩⟩
         ·
          replace c16 := Bool.eq_false_iff.mpr c16
          subst c16
          have H1 : (some false) = some r := by rw [if_neg (show ¬ (false = true) by decide)] at H; exact H
          clear H
          have H := H1
          clear H1
          obtain rfl := Option.some.inj H
          have hcz19_0 : wr.cell? ⟨gb126, 0, none⟩ = some (.int .i64 a0_0) := (blk_cell BK126.out 0).trans rfl
          have hcz19_1 : wr.cell? ⟨gb126, 1, none⟩ = some (.string a0_1) := (blk_cell BK126.out 1).trans rfl
          have hcz19_2 : wr.cell? ⟨gb126, 2, none⟩ = some (.slice A0_2 l0_2.length c0_2) := (blk_cell BK126.out 2).trans rfl
          have hcz19_3 : wr.cell? ⟨gb126, 3, none⟩ = some (.slice A0_3 l0_3.length c0_3) := (blk_cell BK126.out 3).trans rfl
          have hfz19_0 := blk_frozen BK126.out 0
          have hfz19_1 := blk_frozen BK126.out 1
          have hfz19_2 := blk_frozen BK126.out 2
          have hfz19_3 := blk_frozen BK126.out 3
          have p130 : 0 ≤ (x4_2 : Int) := of_decide_eq_true (by first | (with_reducible assumption) | assumption)
          have q130 : x4_2 < (l0_3.length : Int) := of_decide_eq_true (by first | (with_reducible assumption) | assumption)
          obtain ⟨ad130, A130_2, c130_2, A130_3, c130_3, e130, hx130_0, hx130_1, hx130_2, hx130_3, hl130_2, hi130_2, hl130_3, hi130_3⟩ := at_T25 HR0_3.out x4_2 p130 q130
          cases e130
          replace hx130_0 := (HB.out.cell (World.block_lt_of_cell? w _ hx130_0)).trans hx130_0
          replace hx130_1 := (HB.out.cell (World.block_lt_of_cell? w _ hx130_1)).trans hx130_1
          replace hx130_2 := (HB.out.cell (World.block_lt_of_cell? w _ hx130_2)).trans hx130_2
          replace hx130_3 := (HB.out.cell (World.block_lt_of_cell? w _ hx130_3)).trans hx130_3
          have HR130_2 := Aside0.mk hi130_2
          have HC130_2 := Aside0.mk hl130_2
          clear hi130_2 hl130_2
          have HR130_3 := Aside0.mk hi130_3
          have HC130_3 := Aside0.mk hl130_3
          clear hi130_3 hl130_3
          replace p130 := eq_true p130
          replace q130 := eq_true q130
          go_wp2_with (first | ((with_reducible refine gate_callee (f := 29) rfl ?_); refine goesL_ (some 35) rfl rfl Tryd.func29 (by kernel_rfl) rfl #[.agg #[.int .i64 ((rd_T25 l0_3 x4_2).f0), .string ((rd_T25 l0_3 x4_2).f1), .slice A130_2 ((rd_T25 l0_3 x4_2).f2).length c130_2, .slice A130_3 ((rd_T25 l0_3 x4_2).f3).length c130_3]] rfl (by (try simp only [List.map_toArray, List.map_cons, List.map_nil]); first | done | rfl | (simp only [List.length_drop, List.length_take]; rfl)) ?_; (with_reducible refine (ih k2 (by have := HK1.out; have := HK2.out; omega) ((rd_T25 l0_3 x4_2).f0) ((rd_T25 l0_3 x4_2).f1) _ _ ((rd_T25 l0_3 x4_2).f2) _ _ ((rd_T25 l0_3 x4_2).f3) false _ ?side1 ?side2 ?side3 ?side4 A15.out).mono ?_); (case side1 => repeat (first | exact (Kd.C_below HR130_2.out HB.out) | (with_reducible refine Kd.C_alloc ?_ _) | (with_reducible refine Kd.C_drewN ?_ _) | (with_reducible refine Kd.C_drew ?_))); (case side2 => exact HC130_2.out); (case side3 => repeat (first | exact (Kd.C_below HR130_3.out HB.out) | (with_reducible refine Kd.C_alloc ?_ _) | (with_reducible refine Kd.C_drewN ?_ _) | (with_reducible refine Kd.C_drew ?_))); (case side4 => exact HC130_3.out); rintro e w20 ⟨rfl, hb⟩; refine ⟨_, rfl, ?_⟩; have n0_ := Aside0.mk (blk_below (g := gb126) (o := .cells #[.int .i64 a0_0, .string a0_1, .slice A0_2 l0_2.length c0_2, .slice (some ad130) l0_3.length c0_3] 25 (0, 0)) (by (with_reducible repeat (first | refine blk_drewN ?_ _ | refine blk_drew ?_ | refine blk_alloc ?_ _)); exact BK126.out) hb); have n1_ := Aside0.mk (below_step (by repeat (first | (with_reducible first | exact HB.out | apply below_alloc | apply pw_below_drewN | apply below_drew1 | refine below_set ?_ GE126.out) | exact HB.out)) hb); clear BK126; clear HB; have BK126 := n0_; have HB := n1_; clear n0_ n1_; (try clear hb); (try clear hb2); (try clear hk); (try clear hi)))
          go_ret
          exact ⟨by first | rfl | (simp [errW_none, errW_some] <;> rfl) | (simp [*, errW_none, errW_some] <;> rfl), by repeat (first | (with_reducible first | exact HB.out | apply below_alloc | apply pw_below_drewN | apply below_drew1 | refine below_set ?_ GE126.out) | exact HB.out)⟩
        ·
         rw [if_neg c14] at H
         exact absurd H (by simp)
       ·
        rw [if_neg c13] at H
        have c13b0 : decide (x4_2 < (l0_3.length : Int)) = false := decide_eq_false c13
        clear c13
        obtain rfl := Option.some.inj H
        have hcz21_0 : wr.cell? ⟨gb126, 0, none⟩ = some (.int .i64 a0_0) := (blk_cell BK126.out 0).trans rfl
        have hcz21_1 : wr.cell? ⟨gb126, 1, none⟩ = some (.string a0_1) := (blk_cell BK126.out 1).trans rfl
        have hcz21_2 : wr.cell? ⟨gb126, 2, none⟩ = some (.slice A0_2 l0_2.length c0_2) := (blk_cell BK126.out 2).trans rfl
        have hcz21_3 : wr.cell? ⟨gb126, 3, none⟩ = some (.slice A0_3 l0_3.length c0_3) := (blk_cell BK126.out 3).trans rfl
        have hfz21_0 := blk_frozen BK126.out 0
        have hfz21_1 := blk_frozen BK126.out 1
        have hfz21_2 := blk_frozen BK126.out 2
        have hfz21_3 := blk_frozen BK126.out 3
        go_wp2
        go_ret
        exact ⟨by first | rfl | (simp [errW_none, errW_some] <;> rfl) | (simp [*, errW_none, errW_some] <;> rfl), by repeat (first | (with_reducible first | exact HB.out | apply below_alloc | apply pw_below_drewN | apply below_drew1 | refine below_set ?_ GE126.out) | exact HB.out)⟩
 ·
  replace c3 := Bool.eq_false_iff.mpr c3
  subst c3
  have H1 : (some false) = some r := by rw [if_neg (show ¬ (false = true) by decide)] at H; exact H
  clear H
  have H := H1
  clear H1
  obtain rfl := Option.some.inj H
  go_enter Tryd.func29, Tryd.ntmps29
  go_wp2_with (first | ((with_reducible refine gate_dst (N := 1) rfl ?_); refine box_event ?hg (N := 1) ?hd (cs := #[.int .i64 a0_0, .string a0_1, .slice A0_2 l0_2.length c0_2, .slice A0_3 l0_3.length c0_3]) (t := 25) ?hr ?_; (case hd => rfl); (case hg => rfl); (case hr => first | (go_simp; done) | (go_simp; rfl)); intro gb126 hg w22 hbox hb; have n0_ := Aside0.mk (below_step (by repeat (first | (with_reducible first | exact HB.out | apply below_alloc | apply pw_below_drewN | apply below_drew1) | exact HB.out)) hb); have n1_ := Aside0.mk (hbox); have n2_ := Aside0.mk ((by rw [hg]; exact (below_size (by repeat (first | (with_reducible first | exact HB.out | apply below_alloc | apply pw_below_drewN | apply below_drew1) | exact HB.out))) : w.heap.size ≤ gb126)); have n3_ := Aside0.mk ((by rw [hg]; exact (below_size (by repeat (first | (with_reducible first | exact HB.out | apply below_alloc | apply pw_below_drewN | apply below_drew1) | exact HB.out))) : w.heap.size ≤ gb126)); clear HB; have HB := n0_; have BK126 := n1_; have GW126 := n2_; have GE126 := n3_; clear n0_ n1_ n2_ n3_; clear hb hbox hg; have hcz23_0 : w22.cell? ⟨gb126, 0, none⟩ = some (.int .i64 a0_0) := (blk_cell BK126.out 0).trans rfl; have hcz23_1 : w22.cell? ⟨gb126, 1, none⟩ = some (.string a0_1) := (blk_cell BK126.out 1).trans rfl; have hcz23_2 : w22.cell? ⟨gb126, 2, none⟩ = some (.slice A0_2 l0_2.length c0_2) := (blk_cell BK126.out 2).trans rfl; have hcz23_3 : w22.cell? ⟨gb126, 3, none⟩ = some (.slice A0_3 l0_3.length c0_3) := (blk_cell BK126.out 3).trans rfl; have hfz23_0 := blk_frozen BK126.out 0; have hfz23_1 := blk_frozen BK126.out 1; have hfz23_2 := blk_frozen BK126.out 2; have hfz23_3 := blk_frozen BK126.out 3) | ((with_reducible refine gate_callee (f := 23) rfl ?_); refine goesL_ (some 7) rfl rfl Tryd.func23 (by kernel_rfl) rfl #[.string a0_1] rfl (by (try simp only [List.map_toArray, List.map_cons, List.map_nil]); first | done | rfl | (simp only [List.length_drop, List.length_take]; rfl)) ?_; (with_reducible refine (spec_UTF8.calls k a0_1 false _ A2.out).mono ?_); rintro e w' ⟨rfl, ⟨nd, rfl⟩⟩; refine ⟨_, rfl, ?_⟩))
  go_ret
  exact ⟨by first | rfl | (simp [errW_none, errW_some] <;> rfl) | (simp [*, errW_none, errW_some] <;> rfl), by repeat (first | (with_reducible first | exact HB.out | apply below_alloc | apply pw_below_drewN | apply below_drew1 | refine below_set ?_ GE126.out) | exact HB.out)⟩

/-! ### laws_paValue: function 10 -/
def laws_paValue.f (k : Nat) (a0_0 : Int) (a0_1 : ByteArray) (l0_2 : List ByteArray) (l0_3 : List (S25)) : Option (Bool) := (spec_Tidy.f k a0_0 a0_1 l0_2 l0_3).bind fun t133 => (if t133 = true then ((spec_Size.f k a0_0 a0_1 l0_2 l0_3).bind fun t134 => (if t134 ≤ 1000 then ((spec_Depth.f k a0_0 a0_1 l0_2 l0_3).bind fun t135 => (if t135 ≤ 50 then ((spec_Unique.f k a0_0 a0_1 l0_2 l0_3).bind fun t136 => (if t136 = true then ((spec_AllUTF8.f k a0_0 a0_1 l0_2 l0_3).bind fun t137 => (some t137)) else (some false))) else (some false))) else (some false))) else (some false))
theorem laws_paValue.mono : ∀ a0 a1 a2 a3 k, LeO (laws_paValue.f k a0 a1 a2 a3) (laws_paValue.f (k + 1) a0 a1 a2 a3) := by
 intro a0 a1 a2 a3 k
 unfold laws_paValue.f
 repeat' first
   | (with_reducible exact spec_AllUTF8.mono _ _ _ _ _)
   | (with_reducible exact spec_Depth.mono _ _ _ _ _)
   | (with_reducible exact spec_Size.mono _ _ _ _ _)
   | (with_reducible exact spec_Tidy.mono _ _ _ _ _)
   | (with_reducible exact spec_Unique.mono _ _ _ _ _)
   | (with_reducible exact LeO.refl _)
   | (with_reducible exact LeO.none _)
   | (with_reducible refine LeO.ite ?_ ?_)
   | (with_reducible refine LeO.bind ?_ (fun _ => ?_))
   | exact spec_AllUTF8.mono _ _ _ _ _
   | exact spec_Depth.mono _ _ _ _ _
   | exact spec_Size.mono _ _ _ _ _
   | exact spec_Tidy.mono _ _ _ _ _
   | exact spec_Unique.mono _ _ _ _ _
   | exact LeO.none _
   | refine LeO.ite ?_ ?_
   | refine LeO.bind ?_ (fun _ => ?_)
set_option maxHeartbeats 8000000 in
set_option maxRecDepth 100000 in
theorem laws_paValue.calls (k : Nat) (a0_0 : Int) (a0_1 : ByteArray) (A0_2 : Option Addr) (c0_2 : Nat) (l0_2 : List ByteArray) (A0_3 : Option Addr) (c0_3 : Nat) (l0_3 : List (S25)) (r : Bool) (w : World) (hr0_2 : Kd.C Kd.string w A0_2 l0_2.length l0_2) (hc0_2 : l0_2.length ≤ c0_2) (hr0_3 : Kd.C k25 w A0_3 l0_3.length l0_3) (hc0_3 : l0_3.length ≤ c0_3) (h : laws_paValue.f k a0_0 a0_1 l0_2 l0_3 = some r) :
  Calls Tryd.prog 10 #[.agg #[.int .i64 a0_0, .string a0_1, .slice A0_2 l0_2.length c0_2, .slice A0_3 l0_3.length c0_3]] w fun e w' => e = .returned (.bool r) ∧ Below w.heap.size w w' := by
 have hu25 := Tryd.underlying25
 have HR0_2 := Aside0.mk hr0_2
 have HC0_2 := Aside0.mk hc0_2
 clear hr0_2 hc0_2
 have HR0_3 := Aside0.mk hr0_3
 have HC0_3 := Aside0.mk hc0_3
 clear hr0_3 hc0_3
 have HB := Aside0.mk (Below.refl w.heap.size w)
 have H : ((spec_Tidy.f k a0_0 a0_1 l0_2 l0_3).bind fun t133 => (if t133 = true then ((spec_Size.f k a0_0 a0_1 l0_2 l0_3).bind fun t134 => (if t134 ≤ 1000 then ((spec_Depth.f k a0_0 a0_1 l0_2 l0_3).bind fun t135 => (if t135 ≤ 50 then ((spec_Unique.f k a0_0 a0_1 l0_2 l0_3).bind fun t136 => (if t136 = true then ((spec_AllUTF8.f k a0_0 a0_1 l0_2 l0_3).bind fun t137 => (some t137)) else (some false))) else (some false))) else (some false))) else (some false))) = some r := h
 clear h
 replace H := Option.bind_eq_some_iff.mp H
 obtain ⟨t133, A20, H⟩ := H
 replace H : (if t133 = true then ((spec_Size.f k a0_0 a0_1 l0_2 l0_3).bind fun t134 => (if t134 ≤ 1000 then ((spec_Depth.f k a0_0 a0_1 l0_2 l0_3).bind fun t135 => (if t135 ≤ 50 then ((spec_Unique.f k a0_0 a0_1 l0_2 l0_3).bind fun t136 => (if t136 = true then ((spec_AllUTF8.f k a0_0 a0_1 l0_2 l0_3).bind fun t137 => (some t137)) else (some false))) else (some false))) else (some false))) else (some false)) = some r := H
 have A2 := Aside0.mk A20
 clear A20
 by_cases c3 : t133 = true
 ·
  subst c3
  have H1 : ((spec_Size.f k a0_0 a0_1 l0_2 l0_3).bind fun t134 => (if t134 ≤ 1000 then ((spec_Depth.f k a0_0 a0_1 l0_2 l0_3).bind fun t135 => (if t135 ≤ 50 then ((spec_Unique.f k a0_0 a0_1 l0_2 l0_3).bind fun t136 => (if t136 = true then ((spec_AllUTF8.f k a0_0 a0_1 l0_2 l0_3).bind fun t137 => (some t137)) else (some false))) else (some false))) else (some false))) = some r := by rw [if_pos rfl] at H; exact H
  clear H
  have H := H1
  clear H1
  replace H := Option.bind_eq_some_iff.mp H
  obtain ⟨t134, A40, H⟩ := H
  replace H : (if t134 ≤ 1000 then ((spec_Depth.f k a0_0 a0_1 l0_2 l0_3).bind fun t135 => (if t135 ≤ 50 then ((spec_Unique.f k a0_0 a0_1 l0_2 l0_3).bind fun t136 => (if t136 = true then ((spec_AllUTF8.f k a0_0 a0_1 l0_2 l0_3).bind fun t137 => (some t137)) else (some false))) else (some false))) else (some false)) = some r := H
  have A4 := Aside0.mk A40
  clear A40
  by_cases c5 : t134 ≤ 1000
  ·
   rw [if_pos c5] at H
   have c5b0 : decide (t134 ≤ 1000) = true := decide_eq_true c5
   clear c5
   replace H := Option.bind_eq_some_iff.mp H
   obtain ⟨t135, A60, H⟩ := H
   replace H : (if t135 ≤ 50 then ((spec_Unique.f k a0_0 a0_1 l0_2 l0_3).bind fun t136 => (if t136 = true then ((spec_AllUTF8.f k a0_0 a0_1 l0_2 l0_3).bind fun t137 => (some t137)) else (some false))) else (some false)) = some r := H
   have A6 := Aside0.mk A60
   clear A60
   by_cases c7 : t135 ≤ 50
   ·
    rw [if_pos c7] at H
    have c7b0 : decide (t135 ≤ 50) = true := decide_eq_true c7
    clear c7
    replace H := Option.bind_eq_some_iff.mp H
    obtain ⟨t136, A80, H⟩ := H
    replace H : (if t136 = true then ((spec_AllUTF8.f k a0_0 a0_1 l0_2 l0_3).bind fun t137 => (some t137)) else (some false)) = some r := H
    have A8 := Aside0.mk A80
    clear A80
    by_cases c9 : t136 = true
    ·
     subst c9
     have H1 : ((spec_AllUTF8.f k a0_0 a0_1 l0_2 l0_3).bind fun t137 => (some t137)) = some r := by rw [if_pos rfl] at H; exact H
     clear H
     have H := H1
     clear H1
     replace H := Option.bind_eq_some_iff.mp H
     obtain ⟨t137, A100, H⟩ := H
     replace H : (some t137) = some r := H
     have A10 := Aside0.mk A100
     clear A100
     obtain rfl := Option.some.inj H
     go_enter Tryd.func10, Tryd.ntmps10
     go_wp2_with (first | ((with_reducible refine gate_dst (N := 1) rfl ?_); refine box_event ?hg (N := 1) ?hd (cs := #[.int .i64 a0_0, .string a0_1, .slice A0_2 l0_2.length c0_2, .slice A0_3 l0_3.length c0_3]) (t := 25) ?hr ?_; (case hd => rfl); (case hg => rfl); (case hr => first | (go_simp; done) | (go_simp; rfl)); intro gb132 hg w11 hbox hb; have n0_ := Aside0.mk (below_step (by repeat (first | (with_reducible first | exact HB.out | apply below_alloc | apply pw_below_drewN | apply below_drew1) | exact HB.out)) hb); have n1_ := Aside0.mk (hbox); have n2_ := Aside0.mk ((by rw [hg]; exact (below_size (by repeat (first | (with_reducible first | exact HB.out | apply below_alloc | apply pw_below_drewN | apply below_drew1) | exact HB.out))) : w.heap.size ≤ gb132)); have n3_ := Aside0.mk ((by rw [hg]; exact (below_size (by repeat (first | (with_reducible first | exact HB.out | apply below_alloc | apply pw_below_drewN | apply below_drew1) | exact HB.out))) : w.heap.size ≤ gb132)); clear HB; have HB := n0_; have BK132 := n1_; have GW132 := n2_; have GE132 := n3_; clear n0_ n1_ n2_ n3_; clear hb hbox hg; have hcz12_0 : w11.cell? ⟨gb132, 0, none⟩ = some (.int .i64 a0_0) := (blk_cell BK132.out 0).trans rfl; have hcz12_1 : w11.cell? ⟨gb132, 1, none⟩ = some (.string a0_1) := (blk_cell BK132.out 1).trans rfl; have hcz12_2 : w11.cell? ⟨gb132, 2, none⟩ = some (.slice A0_2 l0_2.length c0_2) := (blk_cell BK132.out 2).trans rfl; have hcz12_3 : w11.cell? ⟨gb132, 3, none⟩ = some (.slice A0_3 l0_3.length c0_3) := (blk_cell BK132.out 3).trans rfl; have hfz12_0 := blk_frozen BK132.out 0; have hfz12_1 := blk_frozen BK132.out 1; have hfz12_2 := blk_frozen BK132.out 2; have hfz12_3 := blk_frozen BK132.out 3) | ((with_reducible refine gate_callee (f := 25) rfl ?_); refine goesL_ (some 4) rfl rfl Tryd.func25 (by kernel_rfl) rfl #[.agg #[.int .i64 a0_0, .string a0_1, .slice A0_2 l0_2.length c0_2, .slice A0_3 l0_3.length c0_3]] rfl (by (try simp only [List.map_toArray, List.map_cons, List.map_nil]); first | done | rfl | (simp only [List.length_drop, List.length_take]; rfl)) ?_; (with_reducible refine (spec_Tidy.calls k a0_0 a0_1 _ _ l0_2 _ _ l0_3 true _ ?side1 ?side2 ?side3 ?side4 A2.out).mono ?_); (case side1 => repeat (first | exact (Kd.C_below HR0_2.out HB.out) | (with_reducible refine Kd.C_alloc ?_ _) | (with_reducible refine Kd.C_drewN ?_ _) | (with_reducible refine Kd.C_drew ?_))); (case side2 => exact HC0_2.out); (case side3 => repeat (first | exact (Kd.C_below HR0_3.out HB.out) | (with_reducible refine Kd.C_alloc ?_ _) | (with_reducible refine Kd.C_drewN ?_ _) | (with_reducible refine Kd.C_drew ?_))); (case side4 => exact HC0_3.out); rintro e w13 ⟨rfl, hb⟩; refine ⟨_, rfl, ?_⟩; have n0_ := Aside0.mk (blk_below (g := gb132) (o := .cells #[.int .i64 a0_0, .string a0_1, .slice A0_2 l0_2.length c0_2, .slice A0_3 l0_3.length c0_3] 25 (0, 0)) (by (with_reducible repeat (first | refine blk_drewN ?_ _ | refine blk_drew ?_ | refine blk_alloc ?_ _)); exact BK132.out) hb); have n1_ := Aside0.mk (below_step (by repeat (first | (with_reducible first | exact HB.out | apply below_alloc | apply pw_below_drewN | apply below_drew1 | refine below_set ?_ GE132.out) | exact HB.out)) hb); clear BK132; clear HB; have BK132 := n0_; have HB := n1_; clear n0_ n1_; (try clear hb); (try clear hb2); (try clear hk); (try clear hi); have hcz14_0 : w13.cell? ⟨gb132, 0, none⟩ = some (.int .i64 a0_0) := (blk_cell BK132.out 0).trans rfl; have hcz14_1 : w13.cell? ⟨gb132, 1, none⟩ = some (.string a0_1) := (blk_cell BK132.out 1).trans rfl; have hcz14_2 : w13.cell? ⟨gb132, 2, none⟩ = some (.slice A0_2 l0_2.length c0_2) := (blk_cell BK132.out 2).trans rfl; have hcz14_3 : w13.cell? ⟨gb132, 3, none⟩ = some (.slice A0_3 l0_3.length c0_3) := (blk_cell BK132.out 3).trans rfl; have hfz14_0 := blk_frozen BK132.out 0; have hfz14_1 := blk_frozen BK132.out 1; have hfz14_2 := blk_frozen BK132.out 2; have hfz14_3 := blk_frozen BK132.out 3) | (go_at_call 26; (with_reducible refine (spec_Size.calls k a0_0 a0_1 _ _ l0_2 _ _ l0_3 t134 _ ?side1 ?side2 ?side3 ?side4 A4.out).mono ?_); (case side1 => repeat (first | exact (Kd.C_below HR0_2.out HB.out) | (with_reducible refine Kd.C_alloc ?_ _) | (with_reducible refine Kd.C_drewN ?_ _) | (with_reducible refine Kd.C_drew ?_))); (case side2 => exact HC0_2.out); (case side3 => repeat (first | exact (Kd.C_below HR0_3.out HB.out) | (with_reducible refine Kd.C_alloc ?_ _) | (with_reducible refine Kd.C_drewN ?_ _) | (with_reducible refine Kd.C_drew ?_))); (case side4 => exact HC0_3.out); rintro e w15 ⟨rfl, hb⟩; have n0_ := Aside0.mk (blk_below (g := gb132) (o := .cells #[.int .i64 a0_0, .string a0_1, .slice A0_2 l0_2.length c0_2, .slice A0_3 l0_3.length c0_3] 25 (0, 0)) (by (with_reducible repeat (first | refine blk_drewN ?_ _ | refine blk_drew ?_ | refine blk_alloc ?_ _)); exact BK132.out) hb); have n1_ := Aside0.mk (below_step (by repeat (first | (with_reducible first | exact HB.out | apply below_alloc | apply pw_below_drewN | apply below_drew1 | refine below_set ?_ GE132.out) | exact HB.out)) hb); clear BK132; clear HB; have BK132 := n0_; have HB := n1_; clear n0_ n1_; (try clear hb); (try clear hb2); (try clear hk); (try clear hi); have hcz16_0 : w15.cell? ⟨gb132, 0, none⟩ = some (.int .i64 a0_0) := (blk_cell BK132.out 0).trans rfl; have hcz16_1 : w15.cell? ⟨gb132, 1, none⟩ = some (.string a0_1) := (blk_cell BK132.out 1).trans rfl; have hcz16_2 : w15.cell? ⟨gb132, 2, none⟩ = some (.slice A0_2 l0_2.length c0_2) := (blk_cell BK132.out 2).trans rfl; have hcz16_3 : w15.cell? ⟨gb132, 3, none⟩ = some (.slice A0_3 l0_3.length c0_3) := (blk_cell BK132.out 3).trans rfl; have hfz16_0 := blk_frozen BK132.out 0; have hfz16_1 := blk_frozen BK132.out 1; have hfz16_2 := blk_frozen BK132.out 2; have hfz16_3 := blk_frozen BK132.out 3) | (go_at_call 27; (with_reducible refine (spec_Depth.calls k a0_0 a0_1 _ _ l0_2 _ _ l0_3 t135 _ ?side1 ?side2 ?side3 ?side4 A6.out).mono ?_); (case side1 => repeat (first | exact (Kd.C_below HR0_2.out HB.out) | (with_reducible refine Kd.C_alloc ?_ _) | (with_reducible refine Kd.C_drewN ?_ _) | (with_reducible refine Kd.C_drew ?_))); (case side2 => exact HC0_2.out); (case side3 => repeat (first | exact (Kd.C_below HR0_3.out HB.out) | (with_reducible refine Kd.C_alloc ?_ _) | (with_reducible refine Kd.C_drewN ?_ _) | (with_reducible refine Kd.C_drew ?_))); (case side4 => exact HC0_3.out); rintro e w17 ⟨rfl, hb⟩; have n0_ := Aside0.mk (blk_below (g := gb132) (o := .cells #[.int .i64 a0_0, .string a0_1, .slice A0_2 l0_2.length c0_2, .slice A0_3 l0_3.length c0_3] 25 (0, 0)) (by (with_reducible repeat (first | refine blk_drewN ?_ _ | refine blk_drew ?_ | refine blk_alloc ?_ _)); exact BK132.out) hb); have n1_ := Aside0.mk (below_step (by repeat (first | (with_reducible first | exact HB.out | apply below_alloc | apply pw_below_drewN | apply below_drew1 | refine below_set ?_ GE132.out) | exact HB.out)) hb); clear BK132; clear HB; have BK132 := n0_; have HB := n1_; clear n0_ n1_; (try clear hb); (try clear hb2); (try clear hk); (try clear hi); have hcz18_0 : w17.cell? ⟨gb132, 0, none⟩ = some (.int .i64 a0_0) := (blk_cell BK132.out 0).trans rfl; have hcz18_1 : w17.cell? ⟨gb132, 1, none⟩ = some (.string a0_1) := (blk_cell BK132.out 1).trans rfl; have hcz18_2 : w17.cell? ⟨gb132, 2, none⟩ = some (.slice A0_2 l0_2.length c0_2) := (blk_cell BK132.out 2).trans rfl; have hcz18_3 : w17.cell? ⟨gb132, 3, none⟩ = some (.slice A0_3 l0_3.length c0_3) := (blk_cell BK132.out 3).trans rfl; have hfz18_0 := blk_frozen BK132.out 0; have hfz18_1 := blk_frozen BK132.out 1; have hfz18_2 := blk_frozen BK132.out 2; have hfz18_3 := blk_frozen BK132.out 3) | (go_at_call 28; (with_reducible refine (spec_Unique.calls k a0_0 a0_1 _ _ l0_2 _ _ l0_3 true _ ?side1 ?side2 ?side3 ?side4 A8.out).mono ?_); (case side1 => repeat (first | exact (Kd.C_below HR0_2.out HB.out) | (with_reducible refine Kd.C_alloc ?_ _) | (with_reducible refine Kd.C_drewN ?_ _) | (with_reducible refine Kd.C_drew ?_))); (case side2 => exact HC0_2.out); (case side3 => repeat (first | exact (Kd.C_below HR0_3.out HB.out) | (with_reducible refine Kd.C_alloc ?_ _) | (with_reducible refine Kd.C_drewN ?_ _) | (with_reducible refine Kd.C_drew ?_))); (case side4 => exact HC0_3.out); rintro e w19 ⟨rfl, hb⟩; have n0_ := Aside0.mk (blk_below (g := gb132) (o := .cells #[.int .i64 a0_0, .string a0_1, .slice A0_2 l0_2.length c0_2, .slice A0_3 l0_3.length c0_3] 25 (0, 0)) (by (with_reducible repeat (first | refine blk_drewN ?_ _ | refine blk_drew ?_ | refine blk_alloc ?_ _)); exact BK132.out) hb); have n1_ := Aside0.mk (below_step (by repeat (first | (with_reducible first | exact HB.out | apply below_alloc | apply pw_below_drewN | apply below_drew1 | refine below_set ?_ GE132.out) | exact HB.out)) hb); clear BK132; clear HB; have BK132 := n0_; have HB := n1_; clear n0_ n1_; (try clear hb); (try clear hb2); (try clear hk); (try clear hi); have hcz20_0 : w19.cell? ⟨gb132, 0, none⟩ = some (.int .i64 a0_0) := (blk_cell BK132.out 0).trans rfl; have hcz20_1 : w19.cell? ⟨gb132, 1, none⟩ = some (.string a0_1) := (blk_cell BK132.out 1).trans rfl; have hcz20_2 : w19.cell? ⟨gb132, 2, none⟩ = some (.slice A0_2 l0_2.length c0_2) := (blk_cell BK132.out 2).trans rfl; have hcz20_3 : w19.cell? ⟨gb132, 3, none⟩ = some (.slice A0_3 l0_3.length c0_3) := (blk_cell BK132.out 3).trans rfl; have hfz20_0 := blk_frozen BK132.out 0; have hfz20_1 := blk_frozen BK132.out 1; have hfz20_2 := blk_frozen BK132.out 2; have hfz20_3 := blk_frozen BK132.out 3) | (go_at_call 29; (with_reducible refine (spec_AllUTF8.calls k a0_0 a0_1 _ _ l0_2 _ _ l0_3 t137 _ ?side1 ?side2 ?side3 ?side4 A10.out).mono ?_); (case side1 => repeat (first | exact (Kd.C_below HR0_2.out HB.out) | (with_reducible refine Kd.C_alloc ?_ _) | (with_reducible refine Kd.C_drewN ?_ _) | (with_reducible refine Kd.C_drew ?_))); (case side2 => exact HC0_2.out); (case side3 => repeat (first | exact (Kd.C_below HR0_3.out HB.out) | (with_reducible refine Kd.C_alloc ?_ _) | (with_reducible refine Kd.C_drewN ?_ _) | (with_reducible refine Kd.C_drew ?_))); (case side4 => exact HC0_3.out); rintro e w21 ⟨rfl, hb⟩; have n0_ := Aside0.mk (blk_below (g := gb132) (o := .cells #[.int .i64 a0_0, .string a0_1, .slice A0_2 l0_2.length c0_2, .slice A0_3 l0_3.length c0_3] 25 (0, 0)) (by (with_reducible repeat (first | refine blk_drewN ?_ _ | refine blk_drew ?_ | refine blk_alloc ?_ _)); exact BK132.out) hb); have n1_ := Aside0.mk (below_step (by repeat (first | (with_reducible first | exact HB.out | apply below_alloc | apply pw_below_drewN | apply below_drew1 | refine below_set ?_ GE132.out) | exact HB.out)) hb); clear BK132; clear HB; have BK132 := n0_; have HB := n1_; clear n0_ n1_; (try clear hb); (try clear hb2); (try clear hk); (try clear hi)))
     go_ret
     exact ⟨by first | rfl | (simp [errW_none, errW_some] <;> rfl) | (simp [*, errW_none, errW_some] <;> rfl), by repeat (first | (with_reducible first | exact HB.out | apply below_alloc | apply pw_below_drewN | apply below_drew1 | refine below_set ?_ GE132.out) | exact HB.out)⟩
    ·
     replace c9 := Bool.eq_false_iff.mpr c9
     subst c9
     have H1 : (some false) = some r := by rw [if_neg (show ¬ (false = true) by decide)] at H; exact H
     clear H
     have H := H1
     clear H1
     obtain rfl := Option.some.inj H
     go_enter Tryd.func10, Tryd.ntmps10
     go_wp2_with (first | ((with_reducible refine gate_dst (N := 1) rfl ?_); refine box_event ?hg (N := 1) ?hd (cs := #[.int .i64 a0_0, .string a0_1, .slice A0_2 l0_2.length c0_2, .slice A0_3 l0_3.length c0_3]) (t := 25) ?hr ?_; (case hd => rfl); (case hg => rfl); (case hr => first | (go_simp; done) | (go_simp; rfl)); intro gb132 hg w22 hbox hb; have n0_ := Aside0.mk (below_step (by repeat (first | (with_reducible first | exact HB.out | apply below_alloc | apply pw_below_drewN | apply below_drew1) | exact HB.out)) hb); have n1_ := Aside0.mk (hbox); have n2_ := Aside0.mk ((by rw [hg]; exact (below_size (by repeat (first | (with_reducible first | exact HB.out | apply below_alloc | apply pw_below_drewN | apply below_drew1) | exact HB.out))) : w.heap.size ≤ gb132)); have n3_ := Aside0.mk ((by rw [hg]; exact (below_size (by repeat (first | (with_reducible first | exact HB.out | apply below_alloc | apply pw_below_drewN | apply below_drew1) | exact HB.out))) : w.heap.size ≤ gb132)); clear HB; have HB := n0_; have BK132 := n1_; have GW132 := n2_; have GE132 := n3_; clear n0_ n1_ n2_ n3_; clear hb hbox hg; have hcz23_0 : w22.cell? ⟨gb132, 0, none⟩ = some (.int .i64 a0_0) := (blk_cell BK132.out 0).trans rfl; have hcz23_1 : w22.cell? ⟨gb132, 1, none⟩ = some (.string a0_1) := (blk_cell BK132.out 1).trans rfl; have hcz23_2 : w22.cell? ⟨gb132, 2, none⟩ = some (.slice A0_2 l0_2.length c0_2) := (blk_cell BK132.out 2).trans rfl; have hcz23_3 : w22.cell? ⟨gb132, 3, none⟩ = some (.slice A0_3 l0_3.length c0_3) := (blk_cell BK132.out 3).trans rfl; have hfz23_0 := blk_frozen BK132.out 0; have hfz23_1 := blk_frozen BK132.out 1; have hfz23_2 := blk_frozen BK132.out 2; have hfz23_3 := blk_frozen BK132.out 3) | ((with_reducible refine gate_callee (f := 25) rfl ?_); refine goesL_ (some 4) rfl rfl Tryd.func25 (by kernel_rfl) rfl #[.agg #[.int .i64 a0_0, .string a0_1, .slice A0_2 l0_2.length c0_2, .slice A0_3 l0_3.length c0_3]] rfl (by (try simp only [List.map_toArray, List.map_cons, List.map_nil]); first | done | rfl | (simp only [List.length_drop, List.length_take]; rfl)) ?_; (with_reducible refine (spec_Tidy.calls k a0_0 a0_1 _ _ l0_2 _ _ l0_3 true _ ?side1 ?side2 ?side3 ?side4 A2.out).mono ?_); (case side1 => repeat (first | exact (Kd.C_below HR0_2.out HB.out) | (with_reducible refine Kd.C_alloc ?_ _) | (with_reducible refine Kd.C_drewN ?_ _) | (with_reducible refine Kd.C_drew ?_))); (case side2 => exact HC0_2.out); (case side3 => repeat (first | exact (Kd.C_below HR0_3.out HB.out) | (with_reducible refine Kd.C_alloc ?_ _) | (with_reducible refine Kd.C_drewN ?_ _) | (with_reducible refine Kd.C_drew ?_))); (case side4 => exact HC0_3.out); rintro e w24 ⟨rfl, hb⟩; refine ⟨_, rfl, ?_⟩; have n0_ := Aside0.mk (blk_below (g := gb132) (o := .cells #[.int .i64 a0_0, .string a0_1, .slice A0_2 l0_2.length c0_2, .slice A0_3 l0_3.length c0_3] 25 (0, 0)) (by (with_reducible repeat (first | refine blk_drewN ?_ _ | refine blk_drew ?_ | refine blk_alloc ?_ _)); exact BK132.out) hb); have n1_ := Aside0.mk (below_step (by repeat (first | (with_reducible first | exact HB.out | apply below_alloc | apply pw_below_drewN | apply below_drew1 | refine below_set ?_ GE132.out) | exact HB.out)) hb); clear BK132; clear HB; have BK132 := n0_; have HB := n1_; clear n0_ n1_; (try clear hb); (try clear hb2); (try clear hk); (try clear hi); have hcz25_0 : w24.cell? ⟨gb132, 0, none⟩ = some (.int .i64 a0_0) := (blk_cell BK132.out 0).trans rfl; have hcz25_1 : w24.cell? ⟨gb132, 1, none⟩ = some (.string a0_1) := (blk_cell BK132.out 1).trans rfl; have hcz25_2 : w24.cell? ⟨gb132, 2, none⟩ = some (.slice A0_2 l0_2.length c0_2) := (blk_cell BK132.out 2).trans rfl; have hcz25_3 : w24.cell? ⟨gb132, 3, none⟩ = some (.slice A0_3 l0_3.length c0_3) := (blk_cell BK132.out 3).trans rfl; have hfz25_0 := blk_frozen BK132.out 0; have hfz25_1 := blk_frozen BK132.out 1; have hfz25_2 := blk_frozen BK132.out 2; have hfz25_3 := blk_frozen BK132.out 3) | (go_at_call 26; (with_reducible refine (spec_Size.calls k a0_0 a0_1 _ _ l0_2 _ _ l0_3 t134 _ ?side1 ?side2 ?side3 ?side4 A4.out).mono ?_); (case side1 => repeat (first | exact (Kd.C_below HR0_2.out HB.out) | (with_reducible refine Kd.C_alloc ?_ _) | (with_reducible refine Kd.C_drewN ?_ _) | (with_reducible refine Kd.C_drew ?_))); (case side2 => exact HC0_2.out); (case side3 => repeat (first | exact (Kd.C_below HR0_3.out HB.out) | (with_reducible refine Kd.C_alloc ?_ _) | (with_reducible refine Kd.C_drewN ?_ _) | (with_reducible refine Kd.C_drew ?_))); (case side4 => exact HC0_3.out); rintro e w26 ⟨rfl, hb⟩; have n0_ := Aside0.mk (blk_below (g := gb132) (o := .cells #[.int .i64 a0_0, .string a0_1, .slice A0_2 l0_2.length c0_2, .slice A0_3 l0_3.length c0_3] 25 (0, 0)) (by (with_reducible repeat (first | refine blk_drewN ?_ _ | refine blk_drew ?_ | refine blk_alloc ?_ _)); exact BK132.out) hb); have n1_ := Aside0.mk (below_step (by repeat (first | (with_reducible first | exact HB.out | apply below_alloc | apply pw_below_drewN | apply below_drew1 | refine below_set ?_ GE132.out) | exact HB.out)) hb); clear BK132; clear HB; have BK132 := n0_; have HB := n1_; clear n0_ n1_; (try clear hb); (try clear hb2); (try clear hk); (try clear hi); have hcz27_0 : w26.cell? ⟨gb132, 0, none⟩ = some (.int .i64 a0_0) := (blk_cell BK132.out 0).trans rfl; have hcz27_1 : w26.cell? ⟨gb132, 1, none⟩ = some (.string a0_1) := (blk_cell BK132.out 1).trans rfl; have hcz27_2 : w26.cell? ⟨gb132, 2, none⟩ = some (.slice A0_2 l0_2.length c0_2) := (blk_cell BK132.out 2).trans rfl; have hcz27_3 : w26.cell? ⟨gb132, 3, none⟩ = some (.slice A0_3 l0_3.length c0_3) := (blk_cell BK132.out 3).trans rfl; have hfz27_0 := blk_frozen BK132.out 0; have hfz27_1 := blk_frozen BK132.out 1; have hfz27_2 := blk_frozen BK132.out 2; have hfz27_3 := blk_frozen BK132.out 3) | (go_at_call 27; (with_reducible refine (spec_Depth.calls k a0_0 a0_1 _ _ l0_2 _ _ l0_3 t135 _ ?side1 ?side2 ?side3 ?side4 A6.out).mono ?_); (case side1 => repeat (first | exact (Kd.C_below HR0_2.out HB.out) | (with_reducible refine Kd.C_alloc ?_ _) | (with_reducible refine Kd.C_drewN ?_ _) | (with_reducible refine Kd.C_drew ?_))); (case side2 => exact HC0_2.out); (case side3 => repeat (first | exact (Kd.C_below HR0_3.out HB.out) | (with_reducible refine Kd.C_alloc ?_ _) | (with_reducible refine Kd.C_drewN ?_ _) | (with_reducible refine Kd.C_drew ?_))); (case side4 => exact HC0_3.out); rintro e w28 ⟨rfl, hb⟩; have n0_ := Aside0.mk (blk_below (g := gb132) (o := .cells #[.int .i64 a0_0, .string a0_1, .slice A0_2 l0_2.length c0_2, .slice A0_3 l0_3.length c0_3] 25 (0, 0)) (by (with_reducible repeat (first | refine blk_drewN ?_ _ | refine blk_drew ?_ | refine blk_alloc ?_ _)); exact BK132.out) hb); have n1_ := Aside0.mk (below_step (by repeat (first | (with_reducible first | exact HB.out | apply below_alloc | apply pw_below_drewN | apply below_drew1 | refine below_set ?_ GE132.out) | exact HB.out)) hb); clear BK132; clear HB; have BK132 := n0_; have HB := n1_; clear n0_ n1_; (try clear hb); (try clear hb2); (try clear hk); (try clear hi); have hcz29_0 : w28.cell? ⟨gb132, 0, none⟩ = some (.int .i64 a0_0) := (blk_cell BK132.out 0).trans rfl; have hcz29_1 : w28.cell? ⟨gb132, 1, none⟩ = some (.string a0_1) := (blk_cell BK132.out 1).trans rfl; have hcz29_2 : w28.cell? ⟨gb132, 2, none⟩ = some (.slice A0_2 l0_2.length c0_2) := (blk_cell BK132.out 2).trans rfl; have hcz29_3 : w28.cell? ⟨gb132, 3, none⟩ = some (.slice A0_3 l0_3.length c0_3) := (blk_cell BK132.out 3).trans rfl; have hfz29_0 := blk_frozen BK132.out 0; have hfz29_1 := blk_frozen BK132.out 1; have hfz29_2 := blk_frozen BK132.out 2; have hfz29_3 := blk_frozen BK132.out 3) | (go_at_call 28; (with_reducible refine (spec_Unique.calls k a0_0 a0_1 _ _ l0_2 _ _ l0_3 false _ ?side1 ?side2 ?side3 ?side4 A8.out).mono ?_); (case side1 => repeat (first | exact (Kd.C_below HR0_2.out HB.out) | (with_reducible refine Kd.C_alloc ?_ _) | (with_reducible refine Kd.C_drewN ?_ _) | (with_reducible refine Kd.C_drew ?_))); (case side2 => exact HC0_2.out); (case side3 => repeat (first | exact (Kd.C_below HR0_3.out HB.out) | (with_reducible refine Kd.C_alloc ?_ _) | (with_reducible refine Kd.C_drewN ?_ _) | (with_reducible refine Kd.C_drew ?_))); (case side4 => exact HC0_3.out); rintro e w30 ⟨rfl, hb⟩; have n0_ := Aside0.mk (blk_below (g := gb132) (o := .cells #[.int .i64 a0_0, .string a0_1, .slice A0_2 l0_2.length c0_2, .slice A0_3 l0_3.length c0_3] 25 (0, 0)) (by (with_reducible repeat (first | refine blk_drewN ?_ _ | refine blk_drew ?_ | refine blk_alloc ?_ _)); exact BK132.out) hb); have n1_ := Aside0.mk (below_step (by repeat (first | (with_reducible first | exact HB.out | apply below_alloc | apply pw_below_drewN | apply below_drew1 | refine below_set ?_ GE132.out) | exact HB.out)) hb); clear BK132; clear HB; have BK132 := n0_; have HB := n1_; clear n0_ n1_; (try clear hb); (try clear hb2); (try clear hk); (try clear hi)))
     go_ret
     exact ⟨by first | rfl | (simp [errW_none, errW_some] <;> rfl) | (simp [*, errW_none, errW_some] <;> rfl), by repeat (first | (with_reducible first | exact HB.out | apply below_alloc | apply pw_below_drewN | apply below_drew1 | refine below_set ?_ GE132.out) | exact HB.out)⟩
   ·
    rw [if_neg c7] at H
    have c7b0 : decide (t135 ≤ 50) = false := decide_eq_false c7
    clear c7
    obtain rfl := Option.some.inj H
    go_enter Tryd.func10, Tryd.ntmps10
    go_wp2_with (first | ((with_reducible refine gate_dst (N := 1) rfl ?_); refine box_event ?hg (N := 1) ?hd (cs := #[.int .i64 a0_0, .string a0_1, .slice A0_2 l0_2.length c0_2, .slice A0_3 l0_3.length c0_3]) (t := 25) ?hr ?_; (case hd => rfl); (case hg => rfl); (case hr => first | (go_simp; done) | (go_simp; rfl)); intro gb132 hg w31 hbox hb; have n0_ := Aside0.mk (below_step (by repeat (first | (with_reducible first | exact HB.out | apply below_alloc | apply pw_below_drewN | apply below_drew1) | exact HB.out)) hb); have n1_ := Aside0.mk (hbox); have n2_ := Aside0.mk ((by rw [hg]; exact (below_size (by repeat (first | (with_reducible first | exact HB.out | apply below_alloc | apply pw_below_drewN | apply below_drew1) | exact HB.out))) : w.heap.size ≤ gb132)); have n3_ := Aside0.mk ((by rw [hg]; exact (below_size (by repeat (first | (with_reducible first | exact HB.out | apply below_alloc | apply pw_below_drewN | apply below_drew1) | exact HB.out))) : w.heap.size ≤ gb132)); clear HB; have HB := n0_; have BK132 := n1_; have GW132 := n2_; have GE132 := n3_; clear n0_ n1_ n2_ n3_; clear hb hbox hg; have hcz32_0 : w31.cell? ⟨gb132, 0, none⟩ = some (.int .i64 a0_0) := (blk_cell BK132.out 0).trans rfl; have hcz32_1 : w31.cell? ⟨gb132, 1, none⟩ = some (.string a0_1) := (blk_cell BK132.out 1).trans rfl; have hcz32_2 : w31.cell? ⟨gb132, 2, none⟩ = some (.slice A0_2 l0_2.length c0_2) := (blk_cell BK132.out 2).trans rfl; have hcz32_3 : w31.cell? ⟨gb132, 3, none⟩ = some (.slice A0_3 l0_3.length c0_3) := (blk_cell BK132.out 3).trans rfl; have hfz32_0 := blk_frozen BK132.out 0; have hfz32_1 := blk_frozen BK132.out 1; have hfz32_2 := blk_frozen BK132.out 2; have hfz32_3 := blk_frozen BK132.out 3) | ((with_reducible refine gate_callee (f := 25) rfl ?_); refine goesL_ (some 4) rfl rfl Tryd.func25 (by kernel_rfl) rfl #[.agg #[.int .i64 a0_0, .string a0_1, .slice A0_2 l0_2.length c0_2, .slice A0_3 l0_3.length c0_3]] rfl (by (try simp only [List.map_toArray, List.map_cons, List.map_nil]); first | done | rfl | (simp only [List.length_drop, List.length_take]; rfl)) ?_; (with_reducible refine (spec_Tidy.calls k a0_0 a0_1 _ _ l0_2 _ _ l0_3 true _ ?side1 ?side2 ?side3 ?side4 A2.out).mono ?_); (case side1 => repeat (first | exact (Kd.C_below HR0_2.out HB.out) | (with_reducible refine Kd.C_alloc ?_ _) | (with_reducible refine Kd.C_drewN ?_ _) | (with_reducible refine Kd.C_drew ?_))); (case side2 => exact HC0_2.out); (case side3 => repeat (first | exact (Kd.C_below HR0_3.out HB.out) | (with_reducible refine Kd.C_alloc ?_ _) | (with_reducible refine Kd.C_drewN ?_ _) | (with_reducible refine Kd.C_drew ?_))); (case side4 => exact HC0_3.out); rintro e w33 ⟨rfl, hb⟩; refine ⟨_, rfl, ?_⟩; have n0_ := Aside0.mk (blk_below (g := gb132) (o := .cells #[.int .i64 a0_0, .string a0_1, .slice A0_2 l0_2.length c0_2, .slice A0_3 l0_3.length c0_3] 25 (0, 0)) (by (with_reducible repeat (first | refine blk_drewN ?_ _ | refine blk_drew ?_ | refine blk_alloc ?_ _)); exact BK132.out) hb); have n1_ := Aside0.mk (below_step (by repeat (first | (with_reducible first | exact HB.out | apply below_alloc | apply pw_below_drewN | apply below_drew1 | refine below_set ?_ GE132.out) | exact HB.out)) hb); clear BK132; clear HB; have BK132 := n0_; have HB := n1_; clear n0_ n1_; (try clear hb); (try clear hb2); (try clear hk); (try clear hi); have hcz34_0 : w33.cell? ⟨gb132, 0, none⟩ = some (.int .i64 a0_0) := (blk_cell BK132.out 0).trans rfl; have hcz34_1 : w33.cell? ⟨gb132, 1, none⟩ = some (.string a0_1) := (blk_cell BK132.out 1).trans rfl; have hcz34_2 : w33.cell? ⟨gb132, 2, none⟩ = some (.slice A0_2 l0_2.length c0_2) := (blk_cell BK132.out 2).trans rfl; have hcz34_3 : w33.cell? ⟨gb132, 3, none⟩ = some (.slice A0_3 l0_3.length c0_3) := (blk_cell BK132.out 3).trans rfl; have hfz34_0 := blk_frozen BK132.out 0; have hfz34_1 := blk_frozen BK132.out 1; have hfz34_2 := blk_frozen BK132.out 2; have hfz34_3 := blk_frozen BK132.out 3) | (go_at_call 26; (with_reducible refine (spec_Size.calls k a0_0 a0_1 _ _ l0_2 _ _ l0_3 t134 _ ?side1 ?side2 ?side3 ?side4 A4.out).mono ?_); (case side1 => repeat (first | exact (Kd.C_below HR0_2.out HB.out) | (with_reducible refine Kd.C_alloc ?_ _) | (with_reducible refine Kd.C_drewN ?_ _) | (with_reducible refine Kd.C_drew ?_))); (case side2 => exact HC0_2.out); (case side3 => repeat (first | exact (Kd.C_below HR0_3.out HB.out) | (with_reducible refine Kd.C_alloc ?_ _) | (with_reducible refine Kd.C_drewN ?_ _) | (with_reducible refine Kd.C_drew ?_))); (case side4 => exact HC0_3.out); rintro e w35 ⟨rfl, hb⟩; have n0_ := Aside0.mk (blk_below (g := gb132) (o := .cells #[.int .i64 a0_0, .string a0_1, .slice A0_2 l0_2.length c0_2, .slice A0_3 l0_3.length c0_3] 25 (0, 0)) (by (with_reducible repeat (first | refine blk_drewN ?_ _ | refine blk_drew ?_ | refine blk_alloc ?_ _)); exact BK132.out) hb); have n1_ := Aside0.mk (below_step (by repeat (first | (with_reducible first | exact HB.out | apply below_alloc | apply pw_below_drewN | apply below_drew1 | refine below_set ?_ GE132.out) | exact HB.out)) hb); clear BK132; clear HB; have BK132 := n0_; have HB := n1_; clear n0_ n1_; (try clear hb); (try clear hb2); (try clear hk); (try clear hi); have hcz36_0 : w35.cell? ⟨gb132, 0, none⟩ = some (.int .i64 a0_0) := (blk_cell BK132.out 0).trans rfl; have hcz36_1 : w35.cell? ⟨gb132, 1, none⟩ = some (.string a0_1) := (blk_cell BK132.out 1).trans rfl; have hcz36_2 : w35.cell? ⟨gb132, 2, none⟩ = some (.slice A0_2 l0_2.length c0_2) := (blk_cell BK132.out 2).trans rfl; have hcz36_3 : w35.cell? ⟨gb132, 3, none⟩ = some (.slice A0_3 l0_3.length c0_3) := (blk_cell BK132.out 3).trans rfl; have hfz36_0 := blk_frozen BK132.out 0; have hfz36_1 := blk_frozen BK132.out 1; have hfz36_2 := blk_frozen BK132.out 2; have hfz36_3 := blk_frozen BK132.out 3) | (go_at_call 27; (with_reducible refine (spec_Depth.calls k a0_0 a0_1 _ _ l0_2 _ _ l0_3 t135 _ ?side1 ?side2 ?side3 ?side4 A6.out).mono ?_); (case side1 => repeat (first | exact (Kd.C_below HR0_2.out HB.out) | (with_reducible refine Kd.C_alloc ?_ _) | (with_reducible refine Kd.C_drewN ?_ _) | (with_reducible refine Kd.C_drew ?_))); (case side2 => exact HC0_2.out); (case side3 => repeat (first | exact (Kd.C_below HR0_3.out HB.out) | (with_reducible refine Kd.C_alloc ?_ _) | (with_reducible refine Kd.C_drewN ?_ _) | (with_reducible refine Kd.C_drew ?_))); (case side4 => exact HC0_3.out); rintro e w37 ⟨rfl, hb⟩; have n0_ := Aside0.mk (blk_below (g := gb132) (o := .cells #[.int .i64 a0_0, .string a0_1, .slice A0_2 l0_2.length c0_2, .slice A0_3 l0_3.length c0_3] 25 (0, 0)) (by (with_reducible repeat (first | refine blk_drewN ?_ _ | refine blk_drew ?_ | refine blk_alloc ?_ _)); exact BK132.out) hb); have n1_ := Aside0.mk (below_step (by repeat (first | (with_reducible first | exact HB.out | apply below_alloc | apply pw_below_drewN | apply below_drew1 | refine below_set ?_ GE132.out) | exact HB.out)) hb); clear BK132; clear HB; have BK132 := n0_; have HB := n1_; clear n0_ n1_; (try clear hb); (try clear hb2); (try clear hk); (try clear hi)))
    go_ret
    exact ⟨by first | rfl | (simp [errW_none, errW_some] <;> rfl) | (simp [*, errW_none, errW_some] <;> rfl), by repeat (first | (with_reducible first | exact HB.out | apply below_alloc | apply pw_below_drewN | apply below_drew1 | refine below_set ?_ GE132.out) | exact HB.out)⟩
  ·
   rw [if_neg c5] at H
   have c5b0 : decide (t134 ≤ 1000) = false := decide_eq_false c5
   clear c5
   obtain rfl := Option.some.inj H
   go_enter Tryd.func10, Tryd.ntmps10
   go_wp2_with (first | ((with_reducible refine gate_dst (N := 1) rfl ?_); refine box_event ?hg (N := 1) ?hd (cs := #[.int .i64 a0_0, .string a0_1, .slice A0_2 l0_2.length c0_2, .slice A0_3 l0_3.length c0_3]) (t := 25) ?hr ?_; (case hd => rfl); (case hg => rfl); (case hr => first | (go_simp; done) | (go_simp; rfl)); intro gb132 hg w38 hbox hb; have n0_ := Aside0.mk (below_step (by repeat (first | (with_reducible first | exact HB.out | apply below_alloc | apply pw_below_drewN | apply below_drew1) | exact HB.out)) hb); have n1_ := Aside0.mk (hbox); have n2_ := Aside0.mk ((by rw [hg]; exact (below_size (by repeat (first | (with_reducible first | exact HB.out | apply below_alloc | apply pw_below_drewN | apply below_drew1) | exact HB.out))) : w.heap.size ≤ gb132)); have n3_ := Aside0.mk ((by rw [hg]; exact (below_size (by repeat (first | (with_reducible first | exact HB.out | apply below_alloc | apply pw_below_drewN | apply below_drew1) | exact HB.out))) : w.heap.size ≤ gb132)); clear HB; have HB := n0_; have BK132 := n1_; have GW132 := n2_; have GE132 := n3_; clear n0_ n1_ n2_ n3_; clear hb hbox hg; have hcz39_0 : w38.cell? ⟨gb132, 0, none⟩ = some (.int .i64 a0_0) := (blk_cell BK132.out 0).trans rfl; have hcz39_1 : w38.cell? ⟨gb132, 1, none⟩ = some (.string a0_1) := (blk_cell BK132.out 1).trans rfl; have hcz39_2 : w38.cell? ⟨gb132, 2, none⟩ = some (.slice A0_2 l0_2.length c0_2) := (blk_cell BK132.out 2).trans rfl; have hcz39_3 : w38.cell? ⟨gb132, 3, none⟩ = some (.slice A0_3 l0_3.length c0_3) := (blk_cell BK132.out 3).trans rfl; have hfz39_0 := blk_frozen BK132.out 0; have hfz39_1 := blk_frozen BK132.out 1; have hfz39_2 := blk_frozen BK132.out 2; have hfz39_3 := blk_frozen BK132.out 3) | ((with_reducible refine gate_callee (f := 25) rfl ?_); refine goesL_ (some 4) rfl rfl Tryd.func25 (by kernel_rfl) rfl #[.agg #[.int .i64 a0_0, .string a0_1, .slice A0_2 l0_2.length c0_2, .slice A0_3 l0_3.length c0_3]] rfl (by (try simp only [List.map_toArray, List.map_cons, List.map_nil]); first | done | rfl | (simp only [List.length_drop, List.length_take]; rfl)) ?_; (with_reducible refine (spec_Tidy.calls k a0_0 a0_1 _ _ l0_2 _ _ l0_3 true _ ?side1 ?side2 ?side3 ?side4 A2.out).mono ?_); (case side1 => repeat (first | exact (Kd.C_below HR0_2.out HB.out) | (with_reducible refine Kd.C_alloc ?_ _) | (with_reducible refine Kd.C_drewN ?_ _) | (with_reducible refine Kd.C_drew ?_))); (case side2 => exact HC0_2.out); (case side3 => repeat (first | exact (Kd.C_below HR0_3.out HB.out) | (with_reducible refine Kd.C_alloc ?_ _) | (with_reducible refine Kd.C_drewN ?_ _) | (with_reducible refine Kd.C_drew ?_))); (case side4 => exact HC0_3.out); rintro e w40 ⟨rfl, hb⟩; refine ⟨_, rfl, ?_⟩; have n0_ := Aside0.mk (blk_below (g := gb132) (o := .cells #[.int .i64 a0_0, .string a0_1, .slice A0_2 l0_2.length c0_2, .slice A0_3 l0_3.length c0_3] 25 (0, 0)) (by (with_reducible repeat (first | refine blk_drewN ?_ _ | refine blk_drew ?_ | refine blk_alloc ?_ _)); exact BK132.out) hb); have n1_ := Aside0.mk (below_step (by repeat (first | (with_reducible first | exact HB.out | apply below_alloc | apply pw_below_drewN | apply below_drew1 | refine below_set ?_ GE132.out) | exact HB.out)) hb); clear BK132; clear HB; have BK132 := n0_; have HB := n1_; clear n0_ n1_; (try clear hb); (try clear hb2); (try clear hk); (try clear hi); have hcz41_0 : w40.cell? ⟨gb132, 0, none⟩ = some (.int .i64 a0_0) := (blk_cell BK132.out 0).trans rfl; have hcz41_1 : w40.cell? ⟨gb132, 1, none⟩ = some (.string a0_1) := (blk_cell BK132.out 1).trans rfl; have hcz41_2 : w40.cell? ⟨gb132, 2, none⟩ = some (.slice A0_2 l0_2.length c0_2) := (blk_cell BK132.out 2).trans rfl; have hcz41_3 : w40.cell? ⟨gb132, 3, none⟩ = some (.slice A0_3 l0_3.length c0_3) := (blk_cell BK132.out 3).trans rfl; have hfz41_0 := blk_frozen BK132.out 0; have hfz41_1 := blk_frozen BK132.out 1; have hfz41_2 := blk_frozen BK132.out 2; have hfz41_3 := blk_frozen BK132.out 3) | (go_at_call 26; (with_reducible refine (spec_Size.calls k a0_0 a0_1 _ _ l0_2 _ _ l0_3 t134 _ ?side1 ?side2 ?side3 ?side4 A4.out).mono ?_); (case side1 => repeat (first | exact (Kd.C_below HR0_2.out HB.out) | (with_reducible refine Kd.C_alloc ?_ _) | (with_reducible refine Kd.C_drewN ?_ _) | (with_reducible refine Kd.C_drew ?_))); (case side2 => exact HC0_2.out); (case side3 => repeat (first | exact (Kd.C_below HR0_3.out HB.out) | (with_reducible refine Kd.C_alloc ?_ _) | (with_reducible refine Kd.C_drewN ?_ _) | (with_reducible refine Kd.C_drew ?_))); (case side4 => exact HC0_3.out); rintro e w42 ⟨rfl, hb⟩; have n0_ := Aside0.mk (blk_below (g := gb132) (o := .cells #[.int .i64 a0_0, .string a0_1, .slice A0_2 l0_2.length c0_2, .slice A0_3 l0_3.length c0_3] 25 (0, 0)) (by (with_reducible repeat (first | refine blk_drewN ?_ _ | refine blk_drew ?_ | refine blk_alloc ?_ _)); exact BK132.out) hb); have n1_ := Aside0.mk (below_step (by repeat (first | (with_reducible first | exact HB.out | apply below_alloc | apply pw_below_drewN | apply below_drew1 | refine below_set ?_ GE132.out) | exact HB.out)) hb); clear BK132; clear HB; have BK132 := n0_; have HB := n1_; clear n0_ n1_; (try clear hb); (try clear hb2); (try clear hk); (try clear hi)))
   go_ret
   exact ⟨by first | rfl | (simp [errW_none, errW_some] <;> rfl) | (simp [*, errW_none, errW_some] <;> rfl), by repeat (first | (with_reducible first | exact HB.out | apply below_alloc | apply pw_below_drewN | apply below_drew1 | refine below_set ?_ GE132.out) | exact HB.out)⟩
 ·
  replace c3 := Bool.eq_false_iff.mpr c3
  subst c3
  have H1 : (some false) = some r := by rw [if_neg (show ¬ (false = true) by decide)] at H; exact H
  clear H
  have H := H1
  clear H1
  obtain rfl := Option.some.inj H
  go_enter Tryd.func10, Tryd.ntmps10
  go_wp2_with (first | ((with_reducible refine gate_dst (N := 1) rfl ?_); refine box_event ?hg (N := 1) ?hd (cs := #[.int .i64 a0_0, .string a0_1, .slice A0_2 l0_2.length c0_2, .slice A0_3 l0_3.length c0_3]) (t := 25) ?hr ?_; (case hd => rfl); (case hg => rfl); (case hr => first | (go_simp; done) | (go_simp; rfl)); intro gb132 hg w43 hbox hb; have n0_ := Aside0.mk (below_step (by repeat (first | (with_reducible first | exact HB.out | apply below_alloc | apply pw_below_drewN | apply below_drew1) | exact HB.out)) hb); have n1_ := Aside0.mk (hbox); have n2_ := Aside0.mk ((by rw [hg]; exact (below_size (by repeat (first | (with_reducible first | exact HB.out | apply below_alloc | apply pw_below_drewN | apply below_drew1) | exact HB.out))) : w.heap.size ≤ gb132)); have n3_ := Aside0.mk ((by rw [hg]; exact (below_size (by repeat (first | (with_reducible first | exact HB.out | apply below_alloc | apply pw_below_drewN | apply below_drew1) | exact HB.out))) : w.heap.size ≤ gb132)); clear HB; have HB := n0_; have BK132 := n1_; have GW132 := n2_; have GE132 := n3_; clear n0_ n1_ n2_ n3_; clear hb hbox hg; have hcz44_0 : w43.cell? ⟨gb132, 0, none⟩ = some (.int .i64 a0_0) := (blk_cell BK132.out 0).trans rfl; have hcz44_1 : w43.cell? ⟨gb132, 1, none⟩ = some (.string a0_1) := (blk_cell BK132.out 1).trans rfl; have hcz44_2 : w43.cell? ⟨gb132, 2, none⟩ = some (.slice A0_2 l0_2.length c0_2) := (blk_cell BK132.out 2).trans rfl; have hcz44_3 : w43.cell? ⟨gb132, 3, none⟩ = some (.slice A0_3 l0_3.length c0_3) := (blk_cell BK132.out 3).trans rfl; have hfz44_0 := blk_frozen BK132.out 0; have hfz44_1 := blk_frozen BK132.out 1; have hfz44_2 := blk_frozen BK132.out 2; have hfz44_3 := blk_frozen BK132.out 3) | ((with_reducible refine gate_callee (f := 25) rfl ?_); refine goesL_ (some 4) rfl rfl Tryd.func25 (by kernel_rfl) rfl #[.agg #[.int .i64 a0_0, .string a0_1, .slice A0_2 l0_2.length c0_2, .slice A0_3 l0_3.length c0_3]] rfl (by (try simp only [List.map_toArray, List.map_cons, List.map_nil]); first | done | rfl | (simp only [List.length_drop, List.length_take]; rfl)) ?_; (with_reducible refine (spec_Tidy.calls k a0_0 a0_1 _ _ l0_2 _ _ l0_3 false _ ?side1 ?side2 ?side3 ?side4 A2.out).mono ?_); (case side1 => repeat (first | exact (Kd.C_below HR0_2.out HB.out) | (with_reducible refine Kd.C_alloc ?_ _) | (with_reducible refine Kd.C_drewN ?_ _) | (with_reducible refine Kd.C_drew ?_))); (case side2 => exact HC0_2.out); (case side3 => repeat (first | exact (Kd.C_below HR0_3.out HB.out) | (with_reducible refine Kd.C_alloc ?_ _) | (with_reducible refine Kd.C_drewN ?_ _) | (with_reducible refine Kd.C_drew ?_))); (case side4 => exact HC0_3.out); rintro e w45 ⟨rfl, hb⟩; refine ⟨_, rfl, ?_⟩; have n0_ := Aside0.mk (blk_below (g := gb132) (o := .cells #[.int .i64 a0_0, .string a0_1, .slice A0_2 l0_2.length c0_2, .slice A0_3 l0_3.length c0_3] 25 (0, 0)) (by (with_reducible repeat (first | refine blk_drewN ?_ _ | refine blk_drew ?_ | refine blk_alloc ?_ _)); exact BK132.out) hb); have n1_ := Aside0.mk (below_step (by repeat (first | (with_reducible first | exact HB.out | apply below_alloc | apply pw_below_drewN | apply below_drew1 | refine below_set ?_ GE132.out) | exact HB.out)) hb); clear BK132; clear HB; have BK132 := n0_; have HB := n1_; clear n0_ n1_; (try clear hb); (try clear hb2); (try clear hk); (try clear hi)))
  go_ret
  exact ⟨by first | rfl | (simp [errW_none, errW_some] <;> rfl) | (simp [*, errW_none, errW_some] <;> rfl), by repeat (first | (with_reducible first | exact HB.out | apply below_alloc | apply pw_below_drewN | apply below_drew1 | refine below_set ?_ GE132.out) | exact HB.out)⟩

/-! ### spec_NoNulls: function 39 -/
mutual
def spec_NoNulls.l0 : Nat → List (S25) → Int → Int → Int → ByteArray → List ByteArray → List (S25) → Option (Bool)
 | 0, _, _, _, _, _, _, _ => none
 | k + 1, x6, x7, x8, x139000, x139001, x139002, x139003 => if x8 < x7 then (if 0 ≤ x8 then (if x8 < (x6.length : Int) then (if x139000 = 6 then (if ((rd_T25 x6 x8).f0) = 0 then (some false) else ((spec_NoNulls.f k ((rd_T25 x6 x8).f0) ((rd_T25 x6 x8).f1) ((rd_T25 x6 x8).f2) ((rd_T25 x6 x8).f3)).bind fun t141 => (if t141 = true then (spec_NoNulls.l0 k x6 x7 (wrap64 (x8 + 1)) x139000 x139001 x139002 x139003) else (some false)))) else ((spec_NoNulls.f k ((rd_T25 x6 x8).f0) ((rd_T25 x6 x8).f1) ((rd_T25 x6 x8).f2) ((rd_T25 x6 x8).f3)).bind fun t142 => (if t142 = true then (spec_NoNulls.l0 k x6 x7 (wrap64 (x8 + 1)) x139000 x139001 x139002 x139003) else (some false)))) else (none)) else (none)) else (some true)
def spec_NoNulls.f : Nat → Int → ByteArray → List ByteArray → List (S25) → Option (Bool)
 | 0, _, _, _, _ => none
 | k + 1, a0_0, a0_1, l0_2, l0_3 => spec_NoNulls.l0 k l0_3 (l0_3.length : Int) 0 a0_0 a0_1 l0_2 l0_3
end
theorem spec_NoNulls.mono_l : ∀ k, (∀ y0 y1 y2 y3, LeO (spec_NoNulls.f k y0 y1 y2 y3) (spec_NoNulls.f (k + 1) y0 y1 y2 y3)) ∧ (∀ y0 y1 y2 y3 y4 y5 y6, LeO (spec_NoNulls.l0 k y0 y1 y2 y3 y4 y5 y6) (spec_NoNulls.l0 (k + 1) y0 y1 y2 y3 y4 y5 y6))
 | 0 => ⟨fun _ _ _ _ r h => by simp [spec_NoNulls.f] at h, fun _ _ _ _ _ _ _ r h => by simp [spec_NoNulls.l0] at h⟩
 | k + 1 => by
  obtain ⟨ih0, ih1⟩ := spec_NoNulls.mono_l k
  refine ⟨?_, ?_⟩
  ·
   intro y0 y1 y2 y3
   unfold spec_NoNulls.f
   repeat' first
   | (with_reducible exact ih0 _ _ _ _)
   | (with_reducible exact ih1 _ _ _ _ _ _ _)
   | (with_reducible exact LeO.refl _)
   | (with_reducible exact LeO.none _)
   | (with_reducible refine LeO.ite ?_ ?_)
   | (with_reducible refine LeO.bind ?_ (fun _ => ?_))
   | exact ih0 _ _ _ _
   | exact ih1 _ _ _ _ _ _ _
   | exact LeO.none _
   | refine LeO.ite ?_ ?_
   | refine LeO.bind ?_ (fun _ => ?_)
  ·
   intro y0 y1 y2 y3 y4 y5 y6
   unfold spec_NoNulls.l0
   repeat' first
   | (with_reducible exact ih0 _ _ _ _)
   | (with_reducible exact ih1 _ _ _ _ _ _ _)
   | (with_reducible exact LeO.refl _)
   | (with_reducible exact LeO.none _)
   | (with_reducible refine LeO.ite ?_ ?_)
   | (with_reducible refine LeO.bind ?_ (fun _ => ?_))
   | exact ih0 _ _ _ _
   | exact ih1 _ _ _ _ _ _ _
   | exact LeO.none _
   | refine LeO.ite ?_ ?_
   | refine LeO.bind ?_ (fun _ => ?_)
theorem spec_NoNulls.mono : ∀ a0 a1 a2 a3 k, LeO (spec_NoNulls.f k a0 a1 a2 a3) (spec_NoNulls.f (k + 1) a0 a1 a2 a3) := by
 intro a0 a1 a2 a3 k
 obtain ⟨ih0, ih1⟩ := spec_NoNulls.mono_l k
 exact ih0 a0 a1 a2 a3
set_option maxHeartbeats 8000000 in
set_option maxRecDepth 100000 in
theorem spec_NoNulls.calls (k : Nat) : ∀ (a0_0 : Int) (a0_1 : ByteArray) (A0_2 : Option Addr) (c0_2 : Nat) (l0_2 : List ByteArray) (A0_3 : Option Addr) (c0_3 : Nat) (l0_3 : List (S25)) (r : Bool) (w : World) (hr0_2 : Kd.C Kd.string w A0_2 l0_2.length l0_2) (hc0_2 : l0_2.length ≤ c0_2) (hr0_3 : Kd.C k25 w A0_3 l0_3.length l0_3) (hc0_3 : l0_3.length ≤ c0_3) (h : spec_NoNulls.f k a0_0 a0_1 l0_2 l0_3 = some r),
  Calls Tryd.prog 39 #[.agg #[.int .i64 a0_0, .string a0_1, .slice A0_2 l0_2.length c0_2, .slice A0_3 l0_3.length c0_3]] w fun e w' => e = .returned (.bool r) ∧ Below w.heap.size w w' := by
 induction k using Nat.strongRecOn with
 | _ k ih =>
 intro a0_0 a0_1 A0_2 c0_2 l0_2 A0_3 c0_3 l0_3 r w hr0_2 hc0_2 hr0_3 hc0_3 h
 cases k with
 | zero => exact absurd h (by simp [spec_NoNulls.f])
 | succ k =>
 simp only [spec_NoNulls.f] at h
 have hu25 := Tryd.underlying25
 have HR0_2 := Aside0.mk hr0_2
 have HC0_2 := Aside0.mk hc0_2
 clear hr0_2 hc0_2
 have HR0_3 := Aside0.mk hr0_3
 have HC0_3 := Aside0.mk hc0_3
 clear hr0_3 hc0_3
 have HB := Aside0.mk (Below.refl w.heap.size w)
 have H : (spec_NoNulls.l0 k l0_3 (l0_3.length : Int) 0 a0_0 a0_1 l0_2 l0_3) = some r := h
 clear h
 have H' := Aside0.mk H
 clear H
 go_enter Tryd.func39, Tryd.ntmps39
 go_wp2_with (first | ((with_reducible refine gate_dst (N := 1) rfl ?_); refine box_event ?hg (N := 1) ?hd (cs := #[.int .i64 a0_0, .string a0_1, .slice A0_2 l0_2.length c0_2, .slice A0_3 l0_3.length c0_3]) (t := 25) ?hr ?_; (case hd => rfl); (case hg => rfl); (case hr => first | (go_simp; done) | (go_simp; rfl)); intro gb138 hg w2 hbox hb; have n0_ := Aside0.mk (below_step (by repeat (first | (with_reducible first | exact HB.out | apply below_alloc | apply pw_below_drewN | apply below_drew1) | exact HB.out)) hb); have n1_ := Aside0.mk (hbox); have n2_ := Aside0.mk ((by rw [hg]; exact (below_size (by repeat (first | (with_reducible first | exact HB.out | apply below_alloc | apply pw_below_drewN | apply below_drew1) | exact HB.out))) : w.heap.size ≤ gb138)); have n3_ := Aside0.mk ((by rw [hg]; exact (below_size (by repeat (first | (with_reducible first | exact HB.out | apply below_alloc | apply pw_below_drewN | apply below_drew1) | exact HB.out))) : w.heap.size ≤ gb138)); clear HB; have HB := n0_; have BK138 := n1_; have GW138 := n2_; have GE138 := n3_; clear n0_ n1_ n2_ n3_; clear hb hbox hg; have hcz3_0 : w2.cell? ⟨gb138, 0, none⟩ = some (.int .i64 a0_0) := (blk_cell BK138.out 0).trans rfl; have hcz3_1 : w2.cell? ⟨gb138, 1, none⟩ = some (.string a0_1) := (blk_cell BK138.out 1).trans rfl; have hcz3_2 : w2.cell? ⟨gb138, 2, none⟩ = some (.slice A0_2 l0_2.length c0_2) := (blk_cell BK138.out 2).trans rfl; have hcz3_3 : w2.cell? ⟨gb138, 3, none⟩ = some (.slice A0_3 l0_3.length c0_3) := (blk_cell BK138.out 3).trans rfl; have hfz3_0 := blk_frozen BK138.out 0; have hfz3_1 := blk_frozen BK138.out 1; have hfz3_2 := blk_frozen BK138.out 2; have hfz3_3 := blk_frozen BK138.out 3))
 try simp only [Act.put, List.setIfInBounds_toArray, List.set_cons_succ, List.set_cons_zero]
 go_loopg [8] k (fun kq v8 w' => ∃ (x8_1 : Int), v8 = .int .i64 x8_1 ∧ Aside0 (spec_NoNulls.l0 kq l0_3 (l0_3.length : Int) x8_1 a0_0 a0_1 l0_2 l0_3 = some r) ∧ Aside0 (kq ≤ k) ∧ Aside0 (w'.heap[gb138]? = some (.cells #[.int .i64 a0_0, .string a0_1, (.slice A0_2 l0_2.length c0_2), (.slice A0_3 l0_3.length c0_3)] 25 (0, 0))) ∧ Aside0 (Below w.heap.size w w'))
 case atStart => exact ⟨(0), (by first | rfl | (simp; done) | (simp [*]; done) | (simp; rw [Bool.eq_iff_iff]; simp; done)), H', ⟨Nat.le_refl _⟩, ⟨by (with_reducible repeat (first | refine blk_drewN ?_ _ | refine blk_drew ?_ | refine blk_alloc ?_ _)); exact BK138.out⟩, ⟨by repeat (first | (with_reducible first | exact HB.out | apply below_alloc | apply pw_below_drewN | apply below_drew1 | refine below_set ?_ GE138.out) | exact HB.out)⟩⟩
 case round =>
  clear H'
  (try clear p2); (try clear c3); (try clear hcz3_0); (try clear hcz3_1); (try clear hcz3_2); (try clear hcz3_3); (try clear hfz3_0); (try clear hfz3_1); (try clear hfz3_2); (try clear hfz3_3)
  obtain ⟨x8_1, rfl, HA, HK1, BK138, HB⟩ := hrel
  cases gk with
  | zero => exact absurd HA.out (by simp [spec_NoNulls.l0])
  | succ k1 =>
   have H := HA.out
   clear HA
   simp only [spec_NoNulls.l0] at H
   by_cases c4 : x8_1 < (l0_3.length : Int)
   ·
    rw [if_pos c4] at H
    have c4b0 : decide (x8_1 < (l0_3.length : Int)) = true := decide_eq_true c4
    clear c4
    by_cases c5 : 0 ≤ x8_1
    ·
     rw [if_pos c5] at H
     have c5b0 : decide (0 ≤ x8_1) = true := decide_eq_true c5
     clear c5
     by_cases c6 : x8_1 < (l0_3.length : Int)
     ·
      rw [if_pos c6] at H
      have c6b0 : decide (x8_1 < (l0_3.length : Int)) = true := decide_eq_true c6
      clear c6
      by_cases c7 : a0_0 = 6
      ·
       rw [if_pos c7] at H
       have c7b0 : (a0_0 == 6) = true := beq_iff_eq.mpr c7
       have c7b1 : (a0_0 != 6) = false := bne_eq_false_iff_eq.mpr c7
       clear c7
       by_cases c8 : ((rd_T25 l0_3 x8_1).f0) = 0
       ·
        rw [if_pos c8] at H
        have c8b0 : (((rd_T25 l0_3 x8_1).f0) == 0) = true := beq_iff_eq.mpr c8
        have c8b1 : (((rd_T25 l0_3 x8_1).f0) != 0) = false := bne_eq_false_iff_eq.mpr c8
        clear c8
        obtain rfl := Option.some.inj H
        have p139 : 0 ≤ (x8_1 : Int) := of_decide_eq_true (by first | (with_reducible assumption) | assumption)
        have q139 : x8_1 < (l0_3.length : Int) := of_decide_eq_true (by first | (with_reducible assumption) | assumption)
        obtain ⟨ad139, A139_2, c139_2, A139_3, c139_3, e139, hx139_0, hx139_1, hx139_2, hx139_3, hl139_2, hi139_2, hl139_3, hi139_3⟩ := at_T25 HR0_3.out x8_1 p139 q139
        cases e139
        replace hx139_0 := (HB.out.cell (World.block_lt_of_cell? w _ hx139_0)).trans hx139_0
        replace hx139_1 := (HB.out.cell (World.block_lt_of_cell? w _ hx139_1)).trans hx139_1
        replace hx139_2 := (HB.out.cell (World.block_lt_of_cell? w _ hx139_2)).trans hx139_2
        replace hx139_3 := (HB.out.cell (World.block_lt_of_cell? w _ hx139_3)).trans hx139_3
        have HR139_2 := Aside0.mk hi139_2
        have HC139_2 := Aside0.mk hl139_2
        clear hi139_2 hl139_2
        have HR139_3 := Aside0.mk hi139_3
        have HC139_3 := Aside0.mk hl139_3
        clear hi139_3 hl139_3
        replace p139 := eq_true p139
        replace q139 := eq_true q139
        go_wp2_with (first | ((with_reducible refine gate_dst (N := 4) rfl ?_); refine box_event ?hg (N := 4) ?hd (cs := #[.int .i64 0, .string (⟨#[]⟩ : ByteArray), .slice none 0 0, .slice none 0 0]) (t := 25) ?hr ?_; (case hd => rfl); (case hg => rfl); (case hr => first | (go_simp; done) | (go_simp; rfl)); intro gb140 hg w9 hbox hb; have n0_ := Aside0.mk (blk_below (g := gb138) (o := .cells #[.int .i64 a0_0, .string a0_1, .slice A0_2 l0_2.length c0_2, .slice (some ad139) l0_3.length c0_3] 25 (0, 0)) (by (with_reducible repeat (first | refine blk_drewN ?_ _ | refine blk_drew ?_ | refine blk_alloc ?_ _)); exact BK138.out) hb); have n1_ := Aside0.mk (below_step (by repeat (first | (with_reducible first | exact HB.out | apply below_alloc | apply pw_below_drewN | apply below_drew1 | refine below_set ?_ GE138.out) | exact HB.out)) hb); have n2_ := Aside0.mk (hbox); have n3_ := Aside0.mk ((by rw [hg]; exact (below_size (by repeat (first | (with_reducible first | exact HB.out | apply below_alloc | apply pw_below_drewN | apply below_drew1 | refine below_set ?_ GE138.out) | exact HB.out))) : w.heap.size ≤ gb140)); have n4_ := Aside0.mk ((by rw [hg]; exact (below_size (by repeat (first | (with_reducible first | exact HB.out | apply below_alloc | apply pw_below_drewN | apply below_drew1 | refine below_set ?_ GE138.out) | exact HB.out))) : w.heap.size ≤ gb140)); have n5_ := Aside0.mk ((by rw [hg]; exact Nat.ne_of_lt (blk_lt (g := gb138) (o := .cells #[.int .i64 a0_0, .string a0_1, .slice A0_2 l0_2.length c0_2, .slice (some ad139) l0_3.length c0_3] 25 (0, 0)) (by (with_reducible repeat (first | refine blk_drewN ?_ _ | refine blk_drew ?_ | refine blk_alloc ?_ _)); exact BK138.out)) : gb138 ≠ gb140)); have n6_ := Aside0.mk ((by rw [hg]; exact Nat.ne_of_gt (blk_lt (g := gb138) (o := .cells #[.int .i64 a0_0, .string a0_1, .slice A0_2 l0_2.length c0_2, .slice (some ad139) l0_3.length c0_3] 25 (0, 0)) (by (with_reducible repeat (first | refine blk_drewN ?_ _ | refine blk_drew ?_ | refine blk_alloc ?_ _)); exact BK138.out)) : gb140 ≠ gb138)); clear BK138; clear HB; have BK138 := n0_; have HB := n1_; have BK140 := n2_; have GW140 := n3_; have GE140 := n4_; have NB138_140 := n5_; have NB140_138 := n6_; clear n0_ n1_ n2_ n3_ n4_ n5_ n6_; clear hb hbox hg; have hnb10 := NB140_138.out; have hnc10 := NB138_140.out; have hcz11_0 : w9.cell? ⟨gb140, 0, none⟩ = some (.int .i64 0) := (blk_cell BK140.out 0).trans rfl; have hcz11_1 : w9.cell? ⟨gb140, 1, none⟩ = some (.string (⟨#[]⟩ : ByteArray)) := (blk_cell BK140.out 1).trans rfl; have hcz11_2 : w9.cell? ⟨gb140, 2, none⟩ = some (.slice none 0 0) := (blk_cell BK140.out 2).trans rfl; have hcz11_3 : w9.cell? ⟨gb140, 3, none⟩ = some (.slice none 0 0) := (blk_cell BK140.out 3).trans rfl; have hfz11_0 := blk_frozen BK140.out 0; have hfz11_1 := blk_frozen BK140.out 1; have hfz11_2 := blk_frozen BK140.out 2; have hfz11_3 := blk_frozen BK140.out 3; have hcz12_0 : w9.cell? ⟨gb138, 0, none⟩ = some (.int .i64 a0_0) := (blk_cell BK138.out 0).trans rfl; have hcz12_1 : w9.cell? ⟨gb138, 1, none⟩ = some (.string a0_1) := (blk_cell BK138.out 1).trans rfl; have hcz12_2 : w9.cell? ⟨gb138, 2, none⟩ = some (.slice A0_2 l0_2.length c0_2) := (blk_cell BK138.out 2).trans rfl; have hcz12_3 : w9.cell? ⟨gb138, 3, none⟩ = some (.slice (some ad139) l0_3.length c0_3) := (blk_cell BK138.out 3).trans rfl; have hfz12_0 := blk_frozen BK138.out 0; have hfz12_1 := blk_frozen BK138.out 1; have hfz12_2 := blk_frozen BK138.out 2; have hfz12_3 := blk_frozen BK138.out 3))
        go_ret
        exact ⟨by first | rfl | (simp [errW_none, errW_some] <;> rfl) | (simp [*, errW_none, errW_some] <;> rfl), by repeat (first | (with_reducible first | exact HB.out | apply below_alloc | apply pw_below_drewN | apply below_drew1 | refine below_set ?_ GE138.out | refine below_set ?_ GE140.out) | exact HB.out)⟩
       ·
        rw [if_neg c8] at H
        have c8b0 : (((rd_T25 l0_3 x8_1).f0) == 0) = false := beq_eq_false_iff_ne.mpr c8
        have c8b1 : (((rd_T25 l0_3 x8_1).f0) != 0) = true := bne_iff_ne.mpr c8
        replace H := Option.bind_eq_some_iff.mp H
        obtain ⟨t141, A130, H⟩ := H
        replace H : (if t141 = true then (spec_NoNulls.l0 k1 l0_3 (l0_3.length : Int) (wrap64 (x8_1 + 1)) a0_0 a0_1 l0_2 l0_3) else (some false)) = some r := H
        have A13 := Aside0.mk A130
        clear A130
        by_cases c14 : t141 = true
        ·
         subst c14
         have H1 : (spec_NoNulls.l0 k1 l0_3 (l0_3.length : Int) (wrap64 (x8_1 + 1)) a0_0 a0_1 l0_2 l0_3) = some r := by rw [if_pos rfl] at H; exact H
         clear H
         have H := H1
         clear H1
         have H' := Aside0.mk H
         clear H
         have p139 : 0 ≤ (x8_1 : Int) := of_decide_eq_true (by first | (with_reducible assumption) | assumption)
         have q139 : x8_1 < (l0_3.length : Int) := of_decide_eq_true (by first | (with_reducible assumption) | assumption)
         obtain ⟨ad139, A139_2, c139_2, A139_3, c139_3, e139, hx139_0, hx139_1, hx139_2, hx139_3, hl139_2, hi139_2, hl139_3, hi139_3⟩ := at_T25 HR0_3.out x8_1 p139 q139
         cases e139
         replace hx139_0 := (HB.out.cell (World.block_lt_of_cell? w _ hx139_0)).trans hx139_0
         replace hx139_1 := (HB.out.cell (World.block_lt_of_cell? w _ hx139_1)).trans hx139_1
         replace hx139_2 := (HB.out.cell (World.block_lt_of_cell? w _ hx139_2)).trans hx139_2
         replace hx139_3 := (HB.out.cell (World.block_lt_of_cell? w _ hx139_3)).trans hx139_3
         have HR139_2 := Aside0.mk hi139_2
         have HC139_2 := Aside0.mk hl139_2
         clear hi139_2 hl139_2
         have HR139_3 := Aside0.mk hi139_3
         have HC139_3 := Aside0.mk hl139_3
         clear hi139_3 hl139_3
         replace p139 := eq_true p139
         replace q139 := eq_true q139
         go_wp2_with (first | ((with_reducible refine gate_dst (N := 4) rfl ?_); refine box_event ?hg (N := 4) ?hd (cs := #[.int .i64 0, .string (⟨#[]⟩ : ByteArray), .slice none 0 0, .slice none 0 0]) (t := 25) ?hr ?_; (case hd => rfl); (case hg => rfl); (case hr => first | (go_simp; done) | (go_simp; rfl)); intro gb140 hg w15 hbox hb; have n0_ := Aside0.mk (blk_below (g := gb138) (o := .cells #[.int .i64 a0_0, .string a0_1, .slice A0_2 l0_2.length c0_2, .slice (some ad139) l0_3.length c0_3] 25 (0, 0)) (by (with_reducible repeat (first | refine blk_drewN ?_ _ | refine blk_drew ?_ | refine blk_alloc ?_ _)); exact BK138.out) hb); have n1_ := Aside0.mk (below_step (by repeat (first | (with_reducible first | exact HB.out | apply below_alloc | apply pw_below_drewN | apply below_drew1 | refine below_set ?_ GE138.out) | exact HB.out)) hb); have n2_ := Aside0.mk (hbox); have n3_ := Aside0.mk ((by rw [hg]; exact (below_size (by repeat (first | (with_reducible first | exact HB.out | apply below_alloc | apply pw_below_drewN | apply below_drew1 | refine below_set ?_ GE138.out) | exact HB.out))) : w.heap.size ≤ gb140)); have n4_ := Aside0.mk ((by rw [hg]; exact (below_size (by repeat (first | (with_reducible first | exact HB.out | apply below_alloc | apply pw_below_drewN | apply below_drew1 | refine below_set ?_ GE138.out) | exact HB.out))) : w.heap.size ≤ gb140)); have n5_ := Aside0.mk ((by rw [hg]; exact Nat.ne_of_lt (blk_lt (g := gb138) (o := .cells #[.int .i64 a0_0, .string a0_1, .slice A0_2 l0_2.length c0_2, .slice (some ad139) l0_3.length c0_3] 25 (0, 0)) (by (with_reducible repeat (first | refine blk_drewN ?_ _ | refine blk_drew ?_ | refine blk_alloc ?_ _)); exact BK138.out)) : gb138 ≠ gb140)); have n6_ := Aside0.mk ((by rw [hg]; exact Nat.ne_of_gt (blk_lt (g := gb138) (o := .cells #[.int .i64 a0_0, .string a0_1, .slice A0_2 l0_2.length c0_2, .slice (some ad139) l0_3.length c0_3] 25 (0, 0)) (by (with_reducible repeat (first | refine blk_drewN ?_ _ | refine blk_drew ?_ | refine blk_alloc ?_ _)); exact BK138.out)) : gb140 ≠ gb138)); clear BK138; clear HB; have BK138 := n0_; have HB := n1_; have BK140 := n2_; have GW140 := n3_; have GE140 := n4_; have NB138_140 := n5_; have NB140_138 := n6_; clear n0_ n1_ n2_ n3_ n4_ n5_ n6_; clear hb hbox hg; have hnb16 := NB140_138.out; have hnc16 := NB138_140.out; have hcz17_0 : w15.cell? ⟨gb140, 0, none⟩ = some (.int .i64 0) := (blk_cell BK140.out 0).trans rfl; have hcz17_1 : w15.cell? ⟨gb140, 1, none⟩ = some (.string (⟨#[]⟩ : ByteArray)) := (blk_cell BK140.out 1).trans rfl; have hcz17_2 : w15.cell? ⟨gb140, 2, none⟩ = some (.slice none 0 0) := (blk_cell BK140.out 2).trans rfl; have hcz17_3 : w15.cell? ⟨gb140, 3, none⟩ = some (.slice none 0 0) := (blk_cell BK140.out 3).trans rfl; have hfz17_0 := blk_frozen BK140.out 0; have hfz17_1 := blk_frozen BK140.out 1; have hfz17_2 := blk_frozen BK140.out 2; have hfz17_3 := blk_frozen BK140.out 3; have hcz18_0 : w15.cell? ⟨gb138, 0, none⟩ = some (.int .i64 a0_0) := (blk_cell BK138.out 0).trans rfl; have hcz18_1 : w15.cell? ⟨gb138, 1, none⟩ = some (.string a0_1) := (blk_cell BK138.out 1).trans rfl; have hcz18_2 : w15.cell? ⟨gb138, 2, none⟩ = some (.slice A0_2 l0_2.length c0_2) := (blk_cell BK138.out 2).trans rfl; have hcz18_3 : w15.cell? ⟨gb138, 3, none⟩ = some (.slice (some ad139) l0_3.length c0_3) := (blk_cell BK138.out 3).trans rfl; have hfz18_0 := blk_frozen BK138.out 0; have hfz18_1 := blk_frozen BK138.out 1; have hfz18_2 := blk_frozen BK138.out 2; have hfz18_3 := blk_frozen BK138.out 3) | (go_at_call 39; (with_reducible refine (ih k1 (by have := HK1.out; omega) ((rd_T25 l0_3 x8_1).f0) ((rd_T25 l0_3 x8_1).f1) _ _ ((rd_T25 l0_3 x8_1).f2) _ _ ((rd_T25 l0_3 x8_1).f3) true _ ?side1 ?side2 ?side3 ?side4 A13.out).mono ?_); (case side1 => exact Kd.C_below HR139_2.out (by repeat (first | (with_reducible first | exact HB.out | apply below_alloc | apply pw_below_drewN | apply below_drew1 | refine below_set ?_ GE138.out | refine below_set ?_ GE140.out) | exact HB.out))); (case side2 => exact HC139_2.out); (case side3 => exact Kd.C_below HR139_3.out (by repeat (first | (with_reducible first | exact HB.out | apply below_alloc | apply pw_below_drewN | apply below_drew1 | refine below_set ?_ GE138.out | refine below_set ?_ GE140.out) | exact HB.out))); (case side4 => exact HC139_3.out); rintro e w19 ⟨rfl, hb⟩; have n0_ := Aside0.mk (blk_below (g := gb138) (o := .cells #[.int .i64 a0_0, .string a0_1, .slice A0_2 l0_2.length c0_2, .slice (some ad139) l0_3.length c0_3] 25 (0, 0)) (by (with_reducible repeat (first | refine blk_drewN ?_ _ | refine blk_drew ?_ | refine blk_alloc ?_ _)); refine blk_far ?_ NB138_140.out _; (with_reducible repeat (first | refine blk_drewN ?_ _ | refine blk_drew ?_ | refine blk_alloc ?_ _)); refine blk_far ?_ NB138_140.out _; (with_reducible repeat (first | refine blk_drewN ?_ _ | refine blk_drew ?_ | refine blk_alloc ?_ _)); refine blk_far ?_ NB138_140.out _; (with_reducible repeat (first | refine blk_drewN ?_ _ | refine blk_drew ?_ | refine blk_alloc ?_ _)); refine blk_far ?_ NB138_140.out _; (with_reducible repeat (first | refine blk_drewN ?_ _ | refine blk_drew ?_ | refine blk_alloc ?_ _)); exact BK138.out) hb); have n1_ := Aside0.mk (blk_below (g := gb140) (o := .cells #[.int .i64 ((rd_T25 l0_3 x8_1).f0), .string ((rd_T25 l0_3 x8_1).f1), .slice A139_2 ((rd_T25 l0_3 x8_1).f2).length c139_2, .slice A139_3 ((rd_T25 l0_3 x8_1).f3).length c139_3] 25 (0, 0)) (by (with_reducible repeat (first | refine blk_drewN ?_ _ | refine blk_drew ?_ | refine blk_alloc ?_ _)); refine blk_put (cs := #[.int .i64 ((rd_T25 l0_3 x8_1).f0), .string ((rd_T25 l0_3 x8_1).f1), .slice A139_2 ((rd_T25 l0_3 x8_1).f2).length c139_2, .slice none 0 0]) ?_ 3 _ rfl; (with_reducible repeat (first | refine blk_drewN ?_ _ | refine blk_drew ?_ | refine blk_alloc ?_ _)); refine blk_put (cs := #[.int .i64 ((rd_T25 l0_3 x8_1).f0), .string ((rd_T25 l0_3 x8_1).f1), .slice none 0 0, .slice none 0 0]) ?_ 2 _ rfl; (with_reducible repeat (first | refine blk_drewN ?_ _ | refine blk_drew ?_ | refine blk_alloc ?_ _)); refine blk_put (cs := #[.int .i64 ((rd_T25 l0_3 x8_1).f0), .string (⟨#[]⟩ : ByteArray), .slice none 0 0, .slice none 0 0]) ?_ 1 _ rfl; (with_reducible repeat (first | refine blk_drewN ?_ _ | refine blk_drew ?_ | refine blk_alloc ?_ _)); refine blk_put (cs := #[.int .i64 0, .string (⟨#[]⟩ : ByteArray), .slice none 0 0, .slice none 0 0]) ?_ 0 _ rfl; (with_reducible repeat (first | refine blk_drewN ?_ _ | refine blk_drew ?_ | refine blk_alloc ?_ _)); exact BK140.out) hb); have n2_ := Aside0.mk (below_step (by repeat (first | (with_reducible first | exact HB.out | apply below_alloc | apply pw_below_drewN | apply below_drew1 | refine below_set ?_ GE138.out | refine below_set ?_ GE140.out) | exact HB.out)) hb); clear BK138; clear BK140; clear HB; have BK138 := n0_; have BK140 := n1_; have HB := n2_; clear n0_ n1_ n2_; (try clear hb); (try clear hb2); (try clear hk); (try clear hi)))
         go_roundg k1
         case measure => have := HK1.out; omega
         case rel => exact ⟨(wrap64 (x8_1 + 1)), (by first | rfl | (simp; done) | (simp [*]; done) | (simp; rw [Bool.eq_iff_iff]; simp; done)), H', ⟨by have := HK1.out; omega⟩, ⟨by (with_reducible repeat (first | refine blk_drewN ?_ _ | refine blk_drew ?_ | refine blk_alloc ?_ _)); exact BK138.out⟩, ⟨by repeat (first | (with_reducible first | exact HB.out | apply below_alloc | apply pw_below_drewN | apply below_drew1 | refine below_set ?_ GE138.out | refine below_set ?_ GE140.out) | exact HB.out)⟩⟩
        ·
         replace c14 := Bool.eq_false_iff.mpr c14
         subst c14
         have H1 : (some false) = some r := by rw [if_neg (show ¬ (false = true) by decide)] at H; exact H
         clear H
         have H := H1
         clear H1
         obtain rfl := Option.some.inj H
         have p139 : 0 ≤ (x8_1 : Int) := of_decide_eq_true (by first | (with_reducible assumption) | assumption)
         have q139 : x8_1 < (l0_3.length : Int) := of_decide_eq_true (by first | (with_reducible assumption) | assumption)
         obtain ⟨ad139, A139_2, c139_2, A139_3, c139_3, e139, hx139_0, hx139_1, hx139_2, hx139_3, hl139_2, hi139_2, hl139_3, hi139_3⟩ := at_T25 HR0_3.out x8_1 p139 q139
         cases e139
         replace hx139_0 := (HB.out.cell (World.block_lt_of_cell? w _ hx139_0)).trans hx139_0
         replace hx139_1 := (HB.out.cell (World.block_lt_of_cell? w _ hx139_1)).trans hx139_1
         replace hx139_2 := (HB.out.cell (World.block_lt_of_cell? w _ hx139_2)).trans hx139_2
         replace hx139_3 := (HB.out.cell (World.block_lt_of_cell? w _ hx139_3)).trans hx139_3
         have HR139_2 := Aside0.mk hi139_2
         have HC139_2 := Aside0.mk hl139_2
         clear hi139_2 hl139_2
         have HR139_3 := Aside0.mk hi139_3
         have HC139_3 := Aside0.mk hl139_3
         clear hi139_3 hl139_3
         replace p139 := eq_true p139
         replace q139 := eq_true q139
         go_wp2_with (first | ((with_reducible refine gate_dst (N := 4) rfl ?_); refine box_event ?hg (N := 4) ?hd (cs := #[.int .i64 0, .string (⟨#[]⟩ : ByteArray), .slice none 0 0, .slice none 0 0]) (t := 25) ?hr ?_; (case hd => rfl); (case hg => rfl); (case hr => first | (go_simp; done) | (go_simp; rfl)); intro gb140 hg w20 hbox hb; have n0_ := Aside0.mk (blk_below (g := gb138) (o := .cells #[.int .i64 a0_0, .string a0_1, .slice A0_2 l0_2.length c0_2, .slice (some ad139) l0_3.length c0_3] 25 (0, 0)) (by (with_reducible repeat (first | refine blk_drewN ?_ _ | refine blk_drew ?_ | refine blk_alloc ?_ _)); exact BK138.out) hb); have n1_ := Aside0.mk (below_step (by repeat (first | (with_reducible first | exact HB.out | apply below_alloc | apply pw_below_drewN | apply below_drew1 | refine below_set ?_ GE138.out) | exact HB.out)) hb); have n2_ := Aside0.mk (hbox); have n3_ := Aside0.mk ((by rw [hg]; exact (below_size (by repeat (first | (with_reducible first | exact HB.out | apply below_alloc | apply pw_below_drewN | apply below_drew1 | refine below_set ?_ GE138.out) | exact HB.out))) : w.heap.size ≤ gb140)); have n4_ := Aside0.mk ((by rw [hg]; exact (below_size (by repeat (first | (with_reducible first | exact HB.out | apply below_alloc | apply pw_below_drewN | apply below_drew1 | refine below_set ?_ GE138.out) | exact HB.out))) : w.heap.size ≤ gb140)); have n5_ := Aside0.mk ((by rw [hg]; exact Nat.ne_of_lt (blk_lt (g := gb138) (o := .cells #[.int .i64 a0_0, .string a0_1, .slice A0_2 l0_2.length c0_2, .slice (some ad139) l0_3.length c0_3] 25 (0, 0)) (by (with_reducible repeat (first | refine blk_drewN ?_ _ | refine blk_drew ?_ | refine blk_alloc ?_ _)); exact BK138.out)) : gb138 ≠ gb140)); have n6_ := Aside0.mk ((by rw [hg]; exact Nat.ne_of_gt (blk_lt (g := gb138) (o := .cells #[.int .i64 a0_0, .string a0_1, .slice A0_2 l0_2.length c0_2, .slice (some ad139) l0_3.length c0_3] 25 (0, 0)) (by (with_reducible repeat (first | refine blk_drewN ?_ _ | refine blk_drew ?_ | refine blk_alloc ?_ _)); exact BK138.out)) : gb140 ≠ gb138)); clear BK138; clear HB; have BK138 := n0_; have HB := n1_; have BK140 := n2_; have GW140 := n3_; have GE140 := n4_; have NB138_140 := n5_; have NB140_138 := n6_; clear n0_ n1_ n2_ n3_ n4_ n5_ n6_; clear hb hbox hg; have hnb21 := NB140_138.out; have hnc21 := NB138_140.out; have hcz22_0 : w20.cell? ⟨gb140, 0, none⟩ = some (.int .i64 0) := (blk_cell BK140.out 0).trans rfl; have hcz22_1 : w20.cell? ⟨gb140, 1, none⟩ = some (.string (⟨#[]⟩ : ByteArray)) := (blk_cell BK140.out 1).trans rfl; have hcz22_2 : w20.cell? ⟨gb140, 2, none⟩ = some (.slice none 0 0) := (blk_cell BK140.out 2).trans rfl; have hcz22_3 : w20.cell? ⟨gb140, 3, none⟩ = some (.slice none 0 0) := (blk_cell BK140.out 3).trans rfl; have hfz22_0 := blk_frozen BK140.out 0; have hfz22_1 := blk_frozen BK140.out 1; have hfz22_2 := blk_frozen BK140.out 2; have hfz22_3 := blk_frozen BK140.out 3; have hcz23_0 : w20.cell? ⟨gb138, 0, none⟩ = some (.int .i64 a0_0) := (blk_cell BK138.out 0).trans rfl; have hcz23_1 : w20.cell? ⟨gb138, 1, none⟩ = some (.string a0_1) := (blk_cell BK138.out 1).trans rfl; have hcz23_2 : w20.cell? ⟨gb138, 2, none⟩ = some (.slice A0_2 l0_2.length c0_2) := (blk_cell BK138.out 2).trans rfl; have hcz23_3 : w20.cell? ⟨gb138, 3, none⟩ = some (.slice (some ad139) l0_3.length c0_3) := (blk_cell BK138.out 3).trans rfl; have hfz23_0 := blk_frozen BK138.out 0; have hfz23_1 := blk_frozen BK138.out 1; have hfz23_2 := blk_frozen BK138.out 2; have hfz23_3 := blk_frozen BK138.out 3) | (go_at_call 39; (with_reducible refine (ih k1 (by have := HK1.out; omega) ((rd_T25 l0_3 x8_1).f0) ((rd_T25 l0_3 x8_1).f1) _ _ ((rd_T25 l0_3 x8_1).f2) _ _ ((rd_T25 l0_3 x8_1).f3) false _ ?side1 ?side2 ?side3 ?side4 A13.out).mono ?_); (case side1 => exact Kd.C_below HR139_2.out (by repeat (first | (with_reducible first | exact HB.out | apply below_alloc | apply pw_below_drewN | apply below_drew1 | refine below_set ?_ GE138.out | refine below_set ?_ GE140.out) | exact HB.out))); (case side2 => exact HC139_2.out); (case side3 => exact Kd.C_below HR139_3.out (by repeat (first | (with_reducible first | exact HB.out | apply below_alloc | apply pw_below_drewN | apply below_drew1 | refine below_set ?_ GE138.out | refine below_set ?_ GE140.out) | exact HB.out))); (case side4 => exact HC139_3.out); rintro e w24 ⟨rfl, hb⟩; have n0_ := Aside0.mk (blk_below (g := gb138) (o := .cells #[.int .i64 a0_0, .string a0_1, .slice A0_2 l0_2.length c0_2, .slice (some ad139) l0_3.length c0_3] 25 (0, 0)) (by (with_reducible repeat (first | refine blk_drewN ?_ _ | refine blk_drew ?_ | refine blk_alloc ?_ _)); refine blk_far ?_ NB138_140.out _; (with_reducible repeat (first | refine blk_drewN ?_ _ | refine blk_drew ?_ | refine blk_alloc ?_ _)); refine blk_far ?_ NB138_140.out _; (with_reducible repeat (first | refine blk_drewN ?_ _ | refine blk_drew ?_ | refine blk_alloc ?_ _)); refine blk_far ?_ NB138_140.out _; (with_reducible repeat (first | refine blk_drewN ?_ _ | refine blk_drew ?_ | refine blk_alloc ?_ _)); refine blk_far ?_ NB138_140.out _; (with_reducible repeat (first | refine blk_drewN ?_ _ | refine blk_drew ?_ | refine blk_alloc ?_ _)); exact BK138.out) hb); have n1_ := Aside0.mk (blk_below (g := gb140) (o := .cells #[.int .i64 ((rd_T25 l0_3 x8_1).f0), .string ((rd_T25 l0_3 x8_1).f1), .slice A139_2 ((rd_T25 l0_3 x8_1).f2).length c139_2, .slice A139_3 ((rd_T25 l0_3 x8_1).f3).length c139_3] 25 (0, 0)) (by (with_reducible repeat (first | refine blk_drewN ?_ _ | refine blk_drew ?_ | refine blk_alloc ?_ _)); refine blk_put (cs := #[.int .i64 ((rd_T25 l0_3 x8_1).f0), .string ((rd_T25 l0_3 x8_1).f1), .slice A139_2 ((rd_T25 l0_3 x8_1).f2).length c139_2, .slice none 0 0]) ?_ 3 _ rfl; (with_reducible repeat (first | refine blk_drewN ?_ _ | refine blk_drew ?_ | refine blk_alloc ?_ _)); refine blk_put (cs := #[.int .i64 ((rd_T25 l0_3 x8_1).f0), .string ((rd_T25 l0_3 x8_1).f1), .slice none 0 0, .slice none 0 0]) ?_ 2 _ rfl; (with_reducible repeat (first | refine blk_drewN ?_ _ | refine blk_drew ?_ | refine blk_alloc ?_ _)); refine blk_put (cs := #[.int .i64 ((rd_T25 l0_3 x8_1).f0), .string (⟨#[]⟩ : ByteArray), .slice none 0 0, .slice none 0 0]) ?_ 1 _ rfl; (with_reducible repeat (first | refine blk_drewN ?_ _ | refine blk_drew ?_ | refine blk_alloc ?_ _)); refine blk_put (cs := #[.int .i64 0, .string (⟨#[]⟩ : ByteArray), .slice none 0 0, .slice none 0 0]) ?_ 0 _ rfl; (with_reducible repeat (first | refine blk_drewN ?_ _ | refine blk_drew ?_ | refine blk_alloc ?_ _)); exact BK140.out) hb); have n2_ := Aside0.mk (below_step (by repeat (first | (with_reducible first | exact HB.out | apply below_alloc | apply pw_below_drewN | apply below_drew1 | refine below_set ?_ GE138.out | refine below_set ?_ GE140.out) | exact HB.out)) hb); clear BK138; clear BK140; clear HB; have BK138 := n0_; have BK140 := n1_; have HB := n2_; clear n0_ n1_ n2_; (try clear hb); (try clear hb2); (try clear hk); (try clear hi)))
         go_ret
         exact ⟨by first | rfl | (simp [errW_none, errW_some] <;> rfl) | (simp [*, errW_none, errW_some] <;> rfl), by repeat (first | (with_reducible first | exact HB.out | apply below_alloc | apply pw_below_drewN | apply below_drew1 | refine below_set ?_ GE138.out | refine below_set ?_ GE140.out) | exact HB.out)⟩
      ·
       rw [if_neg c7] at H
       have c7b0 : (a0_0 == 6) = false := beq_eq_false_iff_ne.mpr c7
       have c7b1 : (a0_0 != 6) = true := bne_iff_ne.mpr c7
       replace H := Option.bind_eq_some_iff.mp H
       obtain ⟨t142, A250, H⟩ := H
       replace H : (if t142 = true then (spec_NoNulls.l0 k1 l0_3 (l0_3.length : Int) (wrap64 (x8_1 + 1)) a0_0 a0_1 l0_2 l0_3) else (some false)) = some r := H
       have A25 := Aside0.mk A250
       clear A250
       by_cases c26 : t142 = true
       ·
        subst c26
        have H1 : (spec_NoNulls.l0 k1 l0_3 (l0_3.length : Int) (wrap64 (x8_1 + 1)) a0_0 a0_1 l0_2 l0_3) = some r := by rw [if_pos rfl] at H; exact H
        clear H
        have H := H1
        clear H1
        have H' := Aside0.mk H
        clear H
        have p139 : 0 ≤ (x8_1 : Int) := of_decide_eq_true (by first | (with_reducible assumption) | assumption)
        have q139 : x8_1 < (l0_3.length : Int) := of_decide_eq_true (by first | (with_reducible assumption) | assumption)
        obtain ⟨ad139, A139_2, c139_2, A139_3, c139_3, e139, hx139_0, hx139_1, hx139_2, hx139_3, hl139_2, hi139_2, hl139_3, hi139_3⟩ := at_T25 HR0_3.out x8_1 p139 q139
        cases e139
        replace hx139_0 := (HB.out.cell (World.block_lt_of_cell? w _ hx139_0)).trans hx139_0
        replace hx139_1 := (HB.out.cell (World.block_lt_of_cell? w _ hx139_1)).trans hx139_1
        replace hx139_2 := (HB.out.cell (World.block_lt_of_cell? w _ hx139_2)).trans hx139_2
        replace hx139_3 := (HB.out.cell (World.block_lt_of_cell? w _ hx139_3)).trans hx139_3
        have HR139_2 := Aside0.mk hi139_2
        have HC139_2 := Aside0.mk hl139_2
        clear hi139_2 hl139_2
        have HR139_3 := Aside0.mk hi139_3
        have HC139_3 := Aside0.mk hl139_3
        clear hi139_3 hl139_3
        replace p139 := eq_true p139
        replace q139 := eq_true q139
        go_wp2_with (first | ((with_reducible refine gate_dst (N := 4) rfl ?_); refine box_event ?hg (N := 4) ?hd (cs := #[.int .i64 0, .string (⟨#[]⟩ : ByteArray), .slice none 0 0, .slice none 0 0]) (t := 25) ?hr ?_; (case hd => rfl); (case hg => rfl); (case hr => first | (go_simp; done) | (go_simp; rfl)); intro gb140 hg w27 hbox hb; have n0_ := Aside0.mk (blk_below (g := gb138) (o := .cells #[.int .i64 a0_0, .string a0_1, .slice A0_2 l0_2.length c0_2, .slice (some ad139) l0_3.length c0_3] 25 (0, 0)) (by (with_reducible repeat (first | refine blk_drewN ?_ _ | refine blk_drew ?_ | refine blk_alloc ?_ _)); exact BK138.out) hb); have n1_ := Aside0.mk (below_step (by repeat (first | (with_reducible first | exact HB.out | apply below_alloc | apply pw_below_drewN | apply below_drew1 | refine below_set ?_ GE138.out) | exact HB.out)) hb); have n2_ := Aside0.mk (hbox); have n3_ := Aside0.mk ((by rw [hg]; exact (below_size (by repeat (first | (with_reducible first | exact HB.out | apply below_alloc | apply pw_below_drewN | apply below_drew1 | refine below_set ?_ GE138.out) | exact HB.out))) : w.heap.size ≤ gb140)); have n4_ := Aside0.mk ((by rw [hg]; exact (below_size (by repeat (first | (with_reducible first | exact HB.out | apply below_alloc | apply pw_below_drewN | apply below_drew1 | refine below_set ?_ GE138.out) | exact HB.out))) : w.heap.size ≤ gb140)); have n5_ := Aside0.mk ((by rw [hg]; exact Nat.ne_of_lt (blk_lt (g := gb138) (o := .cells #[.int .i64 a0_0, .string a0_1, .slice A0_2 l0_2.length c0_2, .slice (some ad139) l0_3.length c0_3] 25 (0, 0)) (by (with_reducible repeat (first | refine blk_drewN ?_ _ | refine blk_drew ?_ | refine blk_alloc ?_ _)); exact BK138.out)) : gb138 ≠ gb140)); have n6_ := Aside0.mk ((by rw [hg]; exact Nat.ne_of_gt (blk_lt (g := gb138) (o := .cells #[.int .i64 a0_0, .string a0_1, .slice A0_2 l0_2.length c0_2, .slice (some ad139) l0_3.length c0_3] 25 (0, 0)) (by (with_reducible repeat (first | refine blk_drewN ?_ _ | refine blk_drew ?_ | refine blk_alloc ?_ _)); exact BK138.out)) : gb140 ≠ gb138)); clear BK138; clear HB; have BK138 := n0_; have HB := n1_; have BK140 := n2_; have GW140 := n3_; have GE140 := n4_; have NB138_140 := n5_; have NB140_138 := n6_; clear n0_ n1_ n2_ n3_ n4_ n5_ n6_; clear hb hbox hg; have hnb28 := NB140_138.out; have hnc28 := NB138_140.out; have hcz29_0 : w27.cell? ⟨gb140, 0, none⟩ = some (.int .i64 0) := (blk_cell BK140.out 0).trans rfl; have hcz29_1 : w27.cell? ⟨gb140, 1, none⟩ = some (.string (⟨#[]⟩ : ByteArray)) := (blk_cell BK140.out 1).trans rfl; have hcz29_2 : w27.cell? ⟨gb140, 2, none⟩ = some (.slice none 0 0) := (blk_cell BK140.out 2).trans rfl; have hcz29_3 : w27.cell? ⟨gb140, 3, none⟩ = some (.slice none 0 0) := (blk_cell BK140.out 3).trans rfl; have hfz29_0 := blk_frozen BK140.out 0; have hfz29_1 := blk_frozen BK140.out 1; have hfz29_2 := blk_frozen BK140.out 2; have hfz29_3 := blk_frozen BK140.out 3; have hcz30_0 : w27.cell? ⟨gb138, 0, none⟩ = some (.int .i64 a0_0) := (blk_cell BK138.out 0).trans rfl; have hcz30_1 : w27.cell? ⟨gb138, 1, none⟩ = some (.string a0_1) := (blk_cell BK138.out 1).trans rfl; have hcz30_2 : w27.cell? ⟨gb138, 2, none⟩ = some (.slice A0_2 l0_2.length c0_2) := (blk_cell BK138.out 2).trans rfl; have hcz30_3 : w27.cell? ⟨gb138, 3, none⟩ = some (.slice (some ad139) l0_3.length c0_3) := (blk_cell BK138.out 3).trans rfl; have hfz30_0 := blk_frozen BK138.out 0; have hfz30_1 := blk_frozen BK138.out 1; have hfz30_2 := blk_frozen BK138.out 2; have hfz30_3 := blk_frozen BK138.out 3) | (go_at_call 39; (with_reducible refine (ih k1 (by have := HK1.out; omega) ((rd_T25 l0_3 x8_1).f0) ((rd_T25 l0_3 x8_1).f1) _ _ ((rd_T25 l0_3 x8_1).f2) _ _ ((rd_T25 l0_3 x8_1).f3) true _ ?side1 ?side2 ?side3 ?side4 A25.out).mono ?_); (case side1 => exact Kd.C_below HR139_2.out (by repeat (first | (with_reducible first | exact HB.out | apply below_alloc | apply pw_below_drewN | apply below_drew1 | refine below_set ?_ GE138.out | refine below_set ?_ GE140.out) | exact HB.out))); (case side2 => exact HC139_2.out); (case side3 => exact Kd.C_below HR139_3.out (by repeat (first | (with_reducible first | exact HB.out | apply below_alloc | apply pw_below_drewN | apply below_drew1 | refine below_set ?_ GE138.out | refine below_set ?_ GE140.out) | exact HB.out))); (case side4 => exact HC139_3.out); rintro e w31 ⟨rfl, hb⟩; have n0_ := Aside0.mk (blk_below (g := gb138) (o := .cells #[.int .i64 a0_0, .string a0_1, .slice A0_2 l0_2.length c0_2, .slice (some ad139) l0_3.length c0_3] 25 (0, 0)) (by (with_reducible repeat (first | refine blk_drewN ?_ _ | refine blk_drew ?_ | refine blk_alloc ?_ _)); refine blk_far ?_ NB138_140.out _; (with_reducible repeat (first | refine blk_drewN ?_ _ | refine blk_drew ?_ | refine blk_alloc ?_ _)); refine blk_far ?_ NB138_140.out _; (with_reducible repeat (first | refine blk_drewN ?_ _ | refine blk_drew ?_ | refine blk_alloc ?_ _)); refine blk_far ?_ NB138_140.out _; (with_reducible repeat (first | refine blk_drewN ?_ _ | refine blk_drew ?_ | refine blk_alloc ?_ _)); refine blk_far ?_ NB138_140.out _; (with_reducible repeat (first | refine blk_drewN ?_ _ | refine blk_drew ?_ | refine blk_alloc ?_ _)); exact BK138.out) hb); have n1_ := Aside0.mk (blk_below (g := gb140) (o := .cells #[.int .i64 ((rd_T25 l0_3 x8_1).f0), .string ((rd_T25 l0_3 x8_1).f1), .slice A139_2 ((rd_T25 l0_3 x8_1).f2).length c139_2, .slice A139_3 ((rd_T25 l0_3 x8_1).f3).length c139_3] 25 (0, 0)) (by (with_reducible repeat (first | refine blk_drewN ?_ _ | refine blk_drew ?_ | refine blk_alloc ?_ _)); refine blk_put (cs := #[.int .i64 ((rd_T25 l0_3 x8_1).f0), .string ((rd_T25 l0_3 x8_1).f1), .slice A139_2 ((rd_T25 l0_3 x8_1).f2).length c139_2, .slice none 0 0]) ?_ 3 _ rfl; (with_reducible repeat (first | refine blk_drewN ?_ _ | refine blk_drew ?_ | refine blk_alloc ?_ _)); refine blk_put (cs := #[.int .i64 ((rd_T25 l0_3 x8_1).f0), .string ((rd_T25 l0_3 x8_1).f1), .slice none 0 0, .slice none 0 0]) ?_ 2 _ rfl; (with_reducible repeat (first | refine blk_drewN ?_ _ | refine blk_drew ?_ | refine blk_alloc ?_ _)); refine blk_put (cs := #[.int .i64 ((rd_T25 l0_3 x8_1).f0), .string (⟨#[]⟩ : ByteArray), .slice none 0 0, .slice none 0 0]) ?_ 1 _ rfl; (with_reducible repeat (first | refine blk_drewN ?_ _ | refine blk_drew ?_ | refine blk_alloc ?_ _)); refine blk_put (cs := #[.int .i64 0, .string (⟨#[]⟩ : ByteArray), .slice none 0 0, .slice none 0 0]) ?_ 0 _ rfl; (with_reducible repeat (first | refine blk_drewN ?_ _ | refine blk_drew ?_ | refine blk_alloc ?_ _)); exact BK140.out) hb); have n2_ := Aside0.mk (below_step (by repeat (first | (with_reducible first | exact HB.out | apply below_alloc | apply pw_below_drewN | apply below_drew1 | refine below_set ?_ GE138.out | refine below_set ?_ GE140.out) | exact HB.out)) hb); clear BK138; clear BK140; clear HB; have BK138 := n0_; have BK140 := n1_; have HB := n2_; clear n0_ n1_ n2_; (try clear hb); (try clear hb2); (try clear hk); (try clear hi)))
        go_roundg k1
        case measure => have := HK1.out; omega
        case rel => exact ⟨(wrap64 (x8_1 + 1)), (by first | rfl | (simp; done) | (simp [*]; done) | (simp; rw [Bool.eq_iff_iff]; simp; done)), H', ⟨by have := HK1.out; omega⟩, ⟨by (with_reducible repeat (first | refine blk_drewN ?_ _ | refine blk_drew ?_ | refine blk_alloc ?_ _)); exact BK138.out⟩, ⟨by repeat (first | (with_reducible first | exact HB.out | apply below_alloc | apply pw_below_drewN | apply below_drew1 | refine below_set ?_ GE138.out | refine below_set ?_ GE140.out) | exact HB.out)⟩⟩
       ·
        replace c26 := Bool.eq_false_iff.mpr c26
        subst c26
        have H1 : (some false) = some r := by rw [if_neg (show ¬ (false = true) by decide)] at H; exact H
        clear H
        have H := H1
        clear H1
        obtain rfl := Option.some.inj H
        have p139 : 0 ≤ (x8_1 : Int) := of_decide_eq_true (by first | (with_reducible assumption) | assumption)
        have q139 : x8_1 < (l0_3.length : Int) := of_decide_eq_true (by first | (with_reducible assumption) | assumption)
        obtain ⟨ad139, A139_2, c139_2, A139_3, c139_3, e139, hx139_0, hx139_1, hx139_2, hx139_3, hl139_2, hi139_2, hl139_3, hi139_3⟩ := at_T25 HR0_3.out x8_1 p139 q139
        cases e139
        replace hx139_0 := (HB.out.cell (World.block_lt_of_cell? w _ hx139_0)).trans hx139_0
        replace hx139_1 := (HB.out.cell (World.block_lt_of_cell? w _ hx139_1)).trans hx139_1
        replace hx139_2 := (HB.out.cell (World.block_lt_of_cell? w _ hx139_2)).trans hx139_2
        replace hx139_3 := (HB.out.cell (World.block_lt_of_cell? w _ hx139_3)).trans hx139_3
        have HR139_2 := Aside0.mk hi139_2
        have HC139_2 := Aside0.mk hl139_2
        clear hi139_2 hl139_2
        have HR139_3 := Aside0.mk hi139_3
        have HC139_3 := Aside0.mk hl139_3
        clear hi139_3 hl139_3
        replace p139 := eq_true p139
        replace q139 := eq_true q139
        go_wp2_with (first | ((with_reducible refine gate_dst (N := 4) rfl ?_); refine box_event ?hg (N := 4) ?hd (cs := #[.int .i64 0, .string (⟨#[]⟩ : ByteArray), .slice none 0 0, .slice none 0 0]) (t := 25) ?hr ?_; (case hd => rfl); (case hg => rfl); (case hr => first | (go_simp; done) | (go_simp; rfl)); intro gb140 hg w32 hbox hb; have n0_ := Aside0.mk (blk_below (g := gb138) (o := .cells #[.int .i64 a0_0, .string a0_1, .slice A0_2 l0_2.length c0_2, .slice (some ad139) l0_3.length c0_3] 25 (0, 0)) (by (with_reducible repeat (first | refine blk_drewN ?_ _ | refine blk_drew ?_ | refine blk_alloc ?_ _)); exact BK138.out) hb); have n1_ := Aside0.mk (below_step (by repeat (first | (with_reducible first | exact HB.out | apply below_alloc | apply pw_below_drewN | apply below_drew1 | refine below_set ?_ GE138.out) | exact HB.out)) hb); have n2_ := Aside0.mk (hbox); have n3_ := Aside0.mk ((by rw [hg]; exact (below_size (by repeat (first | (with_reducible first | exact HB.out | apply below_alloc | apply pw_below_drewN | apply below_drew1 | refine below_set ?_ GE138.out) | exact HB.out))) : w.heap.size ≤ gb140)); have n4_ := Aside0.mk ((by rw [hg]; exact (below_size (by repeat (first | (with_reducible first | exact HB.out | apply below_alloc | apply pw_below_drewN | apply below_drew1 | refine below_set ?_ GE138.out) | exact HB.out))) : w.heap.size ≤ gb140)); have n5_ := Aside0.mk ((by rw [hg]; exact Nat.ne_of_lt (blk_lt (g := gb138) (o := .cells #[.int .i64 a0_0, .string a0_1, .slice A0_2 l0_2.length c0_2, .slice (some ad139) l0_3.length c0_3] 25 (0, 0)) (by (with_reducible repeat (first | refine blk_drewN ?_ _ | refine blk_drew ?_ | refine blk_alloc ?_ _)); exact BK138.out)) : gb138 ≠ gb140)); have n6_ := Aside0.mk ((by rw [hg]; exact Nat.ne_of_gt (blk_lt (g := gb138) (o := .cells #[.int .i64 a0_0, .string a0_1, .slice A0_2 l0_2.length c0_2, .slice (some ad139) l0_3.length c0_3] 25 (0, 0)) (by (with_reducible repeat (first | refine blk_drewN ?_ _ | refine blk_drew ?_ | refine blk_alloc ?_ _)); exact BK138.out)) : gb140 ≠ gb138)); clear BK138; clear HB; have BK138 := n0_; have HB := n1_; have BK140 := n2_; have GW140 := n3_; have GE140 := n4_; have NB138_140 := n5_; have NB140_138 := n6_; clear n0_ n1_ n2_ n3_ n4_ n5_ n6_; clear hb hbox hg; have hnb33 := NB140_138.out; have hnc33 := NB138_140.out; have hcz34_0 : w32.cell? ⟨gb140, 0, none⟩ = some (.int .i64 0) := (blk_cell BK140.out 0).trans rfl; have hcz34_1 : w32.cell? ⟨gb140, 1, none⟩ = some (.string (⟨#[]⟩ : ByteArray)) := (blk_cell BK140.out 1).trans rfl; have hcz34_2 : w32.cell? ⟨gb140, 2, none⟩ = some (.slice none 0 0) := (blk_cell BK140.out 2).trans rfl; have hcz34_3 : w32.cell? ⟨gb140, 3, none⟩ = some (.slice none 0 0) := (blk_cell BK140.out 3).trans rfl; have hfz34_0 := blk_frozen BK140.out 0; have hfz34_1 := blk_frozen BK140.out 1; have hfz34_2 := blk_frozen BK140.out 2; have hfz34_3 := blk_frozen BK140.out 3; have hcz35_0 : w32.cell? ⟨gb138, 0, none⟩ = some (.int .i64 a0_0) := (blk_cell BK138.out 0).trans rfl; have hcz35_1 : w32.cell? ⟨gb138, 1, none⟩ = some (.string a0_1) := (blk_cell BK138.out 1).trans rfl; have hcz35_2 : w32.cell? ⟨gb138, 2, none⟩ = some (.slice A0_2 l0_2.length c0_2) := (blk_cell BK138.out 2).trans rfl; have hcz35_3 : w32.cell? ⟨gb138, 3, none⟩ = some (.slice (some ad139) l0_3.length c0_3) := (blk_cell BK138.out 3).trans rfl; have hfz35_0 := blk_frozen BK138.out 0; have hfz35_1 := blk_frozen BK138.out 1; have hfz35_2 := blk_frozen BK138.out 2; have hfz35_3 := blk_frozen BK138.out 3) | (go_at_call 39; (with_reducible refine (ih k1 (by have := HK1.out; omega) ((rd_T25 l0_3 x8_1).f0) ((rd_T25 l0_3 x8_1).f1) _ _ ((rd_T25 l0_3 x8_1).f2) _ _ ((rd_T25 l0_3 x8_1).f3) false _ ?side1 ?side2 ?side3 ?side4 A25.out).mono ?_); (case side1 => exact Kd.C_below HR139_2.out (by repeat (first | (with_reducible first | exact HB.out | apply below_alloc | apply pw_below_drewN | apply below_drew1 | refine below_set ?_ GE138.out | refine below_set ?_ GE140.out) | exact HB.out))); (case side2 => exact HC139_2.out); (case side3 => exact Kd.C_below HR139_3.out (by repeat (first | (with_reducible first | exact HB.out | apply below_alloc | apply pw_below_drewN | apply below_drew1 | refine below_set ?_ GE138.out | refine below_set ?_ GE140.out) | exact HB.out))); (case side4 => exact HC139_3.out); rintro e w36 ⟨rfl, hb⟩; have n0_ := Aside0.mk (blk_below (g := gb138) (o := .cells #[.int .i64 a0_0, .string a0_1, .slice A0_2 l0_2.length c0_2, .slice (some ad139) l0_3.length c0_3] 25 (0, 0)) (by (with_reducible repeat (first | refine blk_drewN ?_ _ | refine blk_drew ?_ | refine blk_alloc ?_ _)); refine blk_far ?_ NB138_140.out _; (with_reducible repeat (first | refine blk_drewN ?_ _ | refine blk_drew ?_ | refine blk_alloc ?_ _)); refine blk_far ?_ NB138_140.out _; (with_reducible repeat (first | refine blk_drewN ?_ _ | refine blk_drew ?_ | refine blk_alloc ?_ _)); refine blk_far ?_ NB138_140.out _; (with_reducible repeat (first | refine blk_drewN ?_ _ | refine blk_drew ?_ | refine blk_alloc ?_ _)); refine blk_far ?_ NB138_140.out _; (with_reducible repeat (first | refine blk_drewN ?_ _ | refine blk_drew ?_ | refine blk_alloc ?_ _)); exact BK138.out) hb); have n1_ := Aside0.mk (blk_below (g := gb140) (o := .cells #[.int .i64 ((rd_T25 l0_3 x8_1).f0), .string ((rd_T25 l0_3 x8_1).f1), .slice A139_2 ((rd_T25 l0_3 x8_1).f2).length c139_2, .slice A139_3 ((rd_T25 l0_3 x8_1).f3).length c139_3] 25 (0, 0)) (by (with_reducible repeat (first | refine blk_drewN ?_ _ | refine blk_drew ?_ | refine blk_alloc ?_ _)); refine blk_put (cs := #[.int .i64 ((rd_T25 l0_3 x8_1).f0), .string ((rd_T25 l0_3 x8_1).f1), .slice A139_2 ((rd_T25 l0_3 x8_1).f2).length c139_2, .slice none 0 0]) ?_ 3 _ rfl; (with_reducible repeat (first | refine blk_drewN ?_ _ | refine blk_drew ?_ | refine blk_alloc ?_ _)); refine blk_put (cs := #[.int .i64 ((rd_T25 l0_3 x8_1).f0), .string ((rd_T25 l0_3 x8_1).f1), .slice none 0 0, .slice none 0 0]) ?_ 2 _ rfl; (with_reducible repeat (first | refine blk_drewN ?_ _ | refine blk_drew ?_ | refine blk_alloc ?_ _)); refine blk_put (cs := #[.int .i64 ((rd_T25 l0_3 x8_1).f0), .string (⟨#[]⟩ : ByteArray), .slice none 0 0, .slice none 0 0]) ?_ 1 _ rfl; (with_reducible repeat (first | refine blk_drewN ?_ _ | refine blk_drew ?_ | refine blk_alloc ?_ _)); refine blk_put (cs := #[.int .i64 0, .string (⟨#[]⟩ : ByteArray), .slice none 0 0, .slice none 0 0]) ?_ 0 _ rfl; (with_reducible repeat (first | refine blk_drewN ?_ _ | refine blk_drew ?_ | refine blk_alloc ?_ _)); exact BK140.out) hb); have n2_ := Aside0.mk (below_step (by repeat (first | (with_reducible first | exact HB.out | apply below_alloc | apply pw_below_drewN | apply below_drew1 | refine below_set ?_ GE138.out | refine below_set ?_ GE140.out) | exact HB.out)) hb); clear BK138; clear BK140; clear HB; have BK138 := n0_; have BK140 := n1_; have HB := n2_; clear n0_ n1_ n2_; (try clear hb); (try clear hb2); (try clear hk); (try clear hi)))
        go_ret
        exact ⟨by first | rfl | (simp [errW_none, errW_some] <;> rfl) | (simp [*, errW_none, errW_some] <;> rfl), by repeat (first | (with_reducible first | exact HB.out | apply below_alloc | apply pw_below_drewN | apply below_drew1 | refine below_set ?_ GE138.out | refine below_set ?_ GE140.out) | exact HB.out)⟩
     ·
      rw [if_neg c6] at H
      exact absurd H (by simp)
    ·
     rw [if_neg c5] at H
     exact absurd H (by simp)
   ·
    rw [if_neg c4] at H
    have c4b0 : decide (x8_1 < (l0_3.length : Int)) = false := decide_eq_false c4
    clear c4
    obtain rfl := Option.some.inj H
    go_wp2
    go_ret
    exact ⟨by first | rfl | (simp [errW_none, errW_some] <;> rfl) | (simp [*, errW_none, errW_some] <;> rfl), by repeat (first | (with_reducible first | exact HB.out | apply below_alloc | apply pw_below_drewN | apply below_drew1 | refine below_set ?_ GE138.out) | exact HB.out)⟩

end Go.Proofs.YtdjogkfgegopfaaDoor.MFnPaMergeAgain
