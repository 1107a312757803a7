/- What Go functions compute, as functions of numbers and lists, and the walks that show it. No condition. Written by a program (wip/tools/mprint.py) over the kit's print. -/
import Derived.Test.YtdjogkfgegopfaaDoorMFnPaMergeAgain0
import Derived.Test.YtdjogkfgegopfaaDoorMFnPaMergeAgain3
namespace Go.Proofs.YtdjogkfgegopfaaDoor.MFnPaMergeAgain
open Go.RowKit Go.Proofs.YtdjogkfgegopfaaDoorW.PrintWords Go.Proofs.YtdjogkfgegopfaaDoorW.PrintLast Go.Proofs.YtdjogkfgegopfaaDoorW.PrintMore
attribute [local go_sem] max2_int min2_int max_two min_two max_three min_three max_four min_four   -- for this text's walks alone
set_option linter.unusedVariables false
set_option linter.unusedSimpArgs false

/-! ### spec_Unique: function 28 -/
mutual
def spec_Unique.l0 : Nat → Int → Int → ByteArray → List ByteArray → List (S25) → Option (Bool)
 | 0, _, _, _, _, _ => none
 | k + 1, x3, x117000, x117001, x117002, x117003 => if x3 < (x117002.length : Int) then (if 0 ≤ x3 then ((spec_at.f k x117000 x117001 x117002 x117003 (rdOf ByteArray.empty x117002 x3)).bind fun t118 => (if t118 = x3 then (spec_Unique.l0 k (wrap64 (x3 + 1)) x117000 x117001 x117002 x117003) else (some false))) else (none)) else (spec_Unique.l1 k 0 x117000 x117001 x117002 x117003)
def spec_Unique.l1 : Nat → Int → Int → ByteArray → List ByteArray → List (S25) → Option (Bool)
 | 0, _, _, _, _, _ => none
 | k + 1, x4, x117000, x117001, x117002, x117003 => if x4 < (x117003.length : Int) then (if 0 ≤ x4 then ((spec_Unique.f k ((rd_T25 x117003 x4).f0) ((rd_T25 x117003 x4).f1) ((rd_T25 x117003 x4).f2) ((rd_T25 x117003 x4).f3)).bind fun t120 => (if t120 = true then (spec_Unique.l1 k (wrap64 (x4 + 1)) x117000 x117001 x117002 x117003) else (some false))) else (none)) else (some true)
def spec_Unique.f : Nat → Int → ByteArray → List ByteArray → List (S25) → Option (Bool)
 | 0, _, _, _, _ => none
 | k + 1, a0_0, a0_1, l0_2, l0_3 => spec_Unique.l0 k 0 a0_0 a0_1 l0_2 l0_3
end
theorem spec_Unique.mono_l : ∀ k, (∀ y0 y1 y2 y3, LeO (spec_Unique.f k y0 y1 y2 y3) (spec_Unique.f (k + 1) y0 y1 y2 y3)) ∧ (∀ y0 y1 y2 y3 y4, LeO (spec_Unique.l0 k y0 y1 y2 y3 y4) (spec_Unique.l0 (k + 1) y0 y1 y2 y3 y4)) ∧ (∀ y0 y1 y2 y3 y4, LeO (spec_Unique.l1 k y0 y1 y2 y3 y4) (spec_Unique.l1 (k + 1) y0 y1 y2 y3 y4))
 | 0 => ⟨fun _ _ _ _ r h => by simp [spec_Unique.f] at h, fun _ _ _ _ _ r h => by simp [spec_Unique.l0] at h, fun _ _ _ _ _ r h => by simp [spec_Unique.l1] at h⟩
 | k + 1 => by
  obtain ⟨ih0, ih1, ih2⟩ := spec_Unique.mono_l k
  refine ⟨?_, ?_, ?_⟩
  ·
   intro y0 y1 y2 y3
   unfold spec_Unique.f
   repeat' first
   | (with_reducible exact ih0 _ _ _ _)
   | (with_reducible exact ih1 _ _ _ _ _)
   | (with_reducible exact ih2 _ _ _ _ _)
   | (with_reducible exact spec_at.mono _ _ _ _ _ _)
   | (with_reducible exact LeO.refl _)
   | (with_reducible exact LeO.none _)
   | (with_reducible refine LeO.ite ?_ ?_)
   | (with_reducible refine LeO.bind ?_ (fun _ => ?_))
   | exact ih0 _ _ _ _
   | exact ih1 _ _ _ _ _
   | exact ih2 _ _ _ _ _
   | exact spec_at.mono _ _ _ _ _ _
   | exact LeO.none _
   | refine LeO.ite ?_ ?_
   | refine LeO.bind ?_ (fun _ => ?_)
  ·
   intro y0 y1 y2 y3 y4
   unfold spec_Unique.l0
   repeat' first
   | (with_reducible exact ih0 _ _ _ _)
   | (with_reducible exact ih1 _ _ _ _ _)
   | (with_reducible exact ih2 _ _ _ _ _)
   | (with_reducible exact spec_at.mono _ _ _ _ _ _)
   | (with_reducible exact LeO.refl _)
   | (with_reducible exact LeO.none _)
   | (with_reducible refine LeO.ite ?_ ?_)
   | (with_reducible refine LeO.bind ?_ (fun _ => ?_))
   | exact ih0 _ _ _ _
   | exact ih1 _ _ _ _ _
   | exact ih2 _ _ _ _ _
   | exact spec_at.mono _ _ _ _ _ _
   | exact LeO.none _
   | refine LeO.ite ?_ ?_
   | refine LeO.bind ?_ (fun _ => ?_)
  ·
   intro y0 y1 y2 y3 y4
   unfold spec_Unique.l1
   repeat' first
   | (with_reducible exact ih0 _ _ _ _)
   | (with_reducible exact ih1 _ _ _ _ _)
   | (with_reducible exact ih2 _ _ _ _ _)
   | (with_reducible exact spec_at.mono _ _ _ _ _ _)
   | (with_reducible exact LeO.refl _)
   | (with_reducible exact LeO.none _)
   | (with_reducible refine LeO.ite ?_ ?_)
   | (with_reducible refine LeO.bind ?_ (fun _ => ?_))
   | exact ih0 _ _ _ _
   | exact ih1 _ _ _ _ _
   | exact ih2 _ _ _ _ _
   | exact spec_at.mono _ _ _ _ _ _
   | exact LeO.none _
   | refine LeO.ite ?_ ?_
   | refine LeO.bind ?_ (fun _ => ?_)
theorem spec_Unique.mono : ∀ a0 a1 a2 a3 k, LeO (spec_Unique.f k a0 a1 a2 a3) (spec_Unique.f (k + 1) a0 a1 a2 a3) := by
 intro a0 a1 a2 a3 k
 obtain ⟨ih0, ih1, ih2⟩ := spec_Unique.mono_l k
 exact ih0 a0 a1 a2 a3
def spec_Unique.T4 : Bool × List (List Nat × List Nat) := (true, [([], []), ([], []), ([1], [1]), ([], []), ([2, 3], [2, 3]), ([4], [4]), ([0, 5], [0, 5]), ([], []), ([6, 7], [6, 7])])
def spec_Unique.B4 : List Nat := [0, 0, 2, 0, 14, 30, 63, 0, 255]
theorem spec_Unique.tab4 : rtab .any (opsOf Tryd.f28 4) = spec_Unique.T4 := by kernel_rfl
theorem spec_Unique.bits4 : waitsOk spec_Unique.T4.2 spec_Unique.B4 = true := by kernel_rfl
set_option maxHeartbeats 8000000 in
set_option maxRecDepth 100000 in
theorem spec_Unique.calls (k : Nat) : ∀ (a0_0 : Int) (a0_1 : ByteArray) (A0_2 : Option Addr) (c0_2 : Nat) (l0_2 : List ByteArray) (A0_3 : Option Addr) (c0_3 : Nat) (l0_3 : List (S25)) (r : Bool) (w : World) (hr0_2 : Kd.C Kd.string w A0_2 l0_2.length l0_2) (hc0_2 : l0_2.length ≤ c0_2) (hr0_3 : Kd.C k25 w A0_3 l0_3.length l0_3) (hc0_3 : l0_3.length ≤ c0_3) (h : spec_Unique.f k a0_0 a0_1 l0_2 l0_3 = some r),
  Calls Tryd.prog 28 #[.agg #[.int .i64 a0_0, .string a0_1, .slice A0_2 l0_2.length c0_2, .slice A0_3 l0_3.length c0_3]] w fun e w' => e = .returned (.bool r) ∧ Below w.heap.size w w' := by
 induction k using Nat.strongRecOn with
 | _ k ih =>
 intro a0_0 a0_1 A0_2 c0_2 l0_2 A0_3 c0_3 l0_3 r w hr0_2 hc0_2 hr0_3 hc0_3 h
 cases k with
 | zero => exact absurd h (by simp [spec_Unique.f])
 | succ k =>
 simp only [spec_Unique.f] at h
 have hu25 := Tryd.underlying25
 have HR0_2 := Aside0.mk hr0_2
 have HC0_2 := Aside0.mk hc0_2
 clear hr0_2 hc0_2
 have HR0_3 := Aside0.mk hr0_3
 have HC0_3 := Aside0.mk hc0_3
 clear hr0_3 hc0_3
 have HB := Aside0.mk (Below.refl w.heap.size w)
 have H : (spec_Unique.l0 k 0 a0_0 a0_1 l0_2 l0_3) = some r := h
 clear h
 have H' := Aside0.mk H
 clear H
 go_enter Tryd.func28, Tryd.ntmps28
 go_wp2_with (first | ((with_reducible refine gate_dst (N := 1) rfl ?_); refine box_event ?hg (N := 1) ?hd (cs := #[.int .i64 a0_0, .string a0_1, .slice A0_2 l0_2.length c0_2, .slice A0_3 l0_3.length c0_3]) (t := 25) ?hr ?_; (case hd => rfl); (case hg => rfl); (case hr => first | (go_simp; done) | (go_simp; rfl)); intro gb116 hg w2 hbox hb; have n0_ := Aside0.mk (below_step (by repeat (first | (with_reducible first | exact HB.out | apply below_alloc | apply pw_below_drewN | apply below_drew1) | exact HB.out)) hb); have n1_ := Aside0.mk (hbox); have n2_ := Aside0.mk ((by rw [hg]; exact (below_size (by repeat (first | (with_reducible first | exact HB.out | apply below_alloc | apply pw_below_drewN | apply below_drew1) | exact HB.out))) : w.heap.size ≤ gb116)); have n3_ := Aside0.mk ((by rw [hg]; exact (below_size (by repeat (first | (with_reducible first | exact HB.out | apply below_alloc | apply pw_below_drewN | apply below_drew1) | exact HB.out))) : w.heap.size ≤ gb116)); clear HB; have HB := n0_; have BK116 := n1_; have GW116 := n2_; have GE116 := n3_; clear n0_ n1_ n2_ n3_; clear hb hbox hg))
 try simp only [Act.put, List.setIfInBounds_toArray, List.set_cons_succ, List.set_cons_zero]
 go_loopg [3] k (fun kq v3 w' => ∃ (x3_1 : Int), v3 = .int .i64 x3_1 ∧ Aside0 (spec_Unique.l0 kq x3_1 a0_0 a0_1 l0_2 l0_3 = some r) ∧ Aside0 (kq ≤ k) ∧ Aside0 (w'.heap[gb116]? = some (.cells #[.int .i64 a0_0, .string a0_1, (.slice A0_2 l0_2.length c0_2), (.slice A0_3 l0_3.length c0_3)] 25 (0, 0))) ∧ Aside0 (Below w.heap.size w w'))
 case atStart => exact ⟨(0), (by first | rfl | (simp; done) | (simp [*]; done) | (simp; rw [Bool.eq_iff_iff]; simp; done)), H', ⟨Nat.le_refl _⟩, ⟨by (with_reducible repeat (first | refine blk_drewN ?_ _ | refine blk_drew ?_ | refine blk_alloc ?_ _)); exact BK116.out⟩, ⟨by repeat (first | (with_reducible first | exact HB.out | apply below_alloc | apply pw_below_drewN | apply below_drew1 | refine below_set ?_ GE116.out) | exact HB.out)⟩⟩
 case round =>
  clear H'
  (try clear c2); (try clear p2)
  obtain ⟨x3_1, rfl, HA, HK1, BK116, HB⟩ := hrel
  cases gk with
  | zero => exact absurd HA.out (by simp [spec_Unique.l0])
  | succ k1 =>
   have H := HA.out
   clear HA
   simp only [spec_Unique.l0] at H
   by_cases c3 : x3_1 < (l0_2.length : Int)
   ·
    rw [if_pos c3] at H
    have c3b0 : decide (x3_1 < (l0_2.length : Int)) = true := decide_eq_true c3
    clear c3
    by_cases c4 : 0 ≤ x3_1
    ·
     rw [if_pos c4] at H
     have c4b0 : decide (0 ≤ x3_1) = true := decide_eq_true c4
     clear c4
     replace H := Option.bind_eq_some_iff.mp H
     obtain ⟨t118, A50, H⟩ := H
     replace H : (if t118 = x3_1 then (spec_Unique.l0 k1 (wrap64 (x3_1 + 1)) a0_0 a0_1 l0_2 l0_3) else (some false)) = some r := H
     have A5 := Aside0.mk A50
     clear A50
     by_cases c6 : t118 = x3_1
     ·
      rw [if_pos c6] at H
      have c6b0 : (t118 == x3_1) = true := beq_iff_eq.mpr c6
      have c6b1 : (t118 != x3_1) = false := bne_eq_false_iff_eq.mpr c6
      clear c6
      have H' := Aside0.mk H
      clear H
      have hcz7_0 : wr.cell? ⟨gb116, 0, none⟩ = some (.int .i64 a0_0) := (blk_cell BK116.out 0).trans rfl
      have hcz7_1 : wr.cell? ⟨gb116, 1, none⟩ = some (.string a0_1) := (blk_cell BK116.out 1).trans rfl
      have hcz7_2 : wr.cell? ⟨gb116, 2, none⟩ = some (.slice A0_2 l0_2.length c0_2) := (blk_cell BK116.out 2).trans rfl
      have hcz7_3 : wr.cell? ⟨gb116, 3, none⟩ = some (.slice A0_3 l0_3.length c0_3) := (blk_cell BK116.out 3).trans rfl
      have hfz7_0 := blk_frozen BK116.out 0
      have hfz7_1 := blk_frozen BK116.out 1
      have hfz7_2 := blk_frozen BK116.out 2
      have hfz7_3 := blk_frozen BK116.out 3
      try go_wp2
      have n0_ := Aside0.mk (blk_drew BK116.out)
      have n1_ := Aside0.mk (below_drew1 HB.out)
      clear BK116
      clear HB
      have BK116 := n0_
      have HB := n1_
      clear n0_ n1_
      have p117 : 0 ≤ (x3_1 : Int) := of_decide_eq_true (by first | (with_reducible assumption) | assumption)
      have q117 : x3_1 < (l0_2.length : Int) := of_decide_eq_true (by first | (with_reducible assumption) | assumption)
      obtain ⟨ad117, e117, hx117_0⟩ := Kd.at_string HR0_2.out x3_1 p117 q117
      have hw117_0 := hx117_0
      cases e117
      replace hx117_0 := (HB.out.cell (World.block_lt_of_cell? w _ hx117_0)).trans hx117_0
      replace p117 := eq_true p117
      replace q117 := eq_true q117
      refine start_ (n := 9) (S := fun w' => w'.cell? ⟨gb116, 0, none⟩ = some (.int .i64 a0_0) ∧ w'.cell? ⟨gb116, 1, none⟩ = some (.string a0_1) ∧ w'.cell? ⟨gb116, 2, none⟩ = some (.slice (some ad117) l0_2.length c0_2) ∧ w'.cell? ⟨gb116, 3, none⟩ = some (.slice A0_3 l0_3.length c0_3) ∧ w'.cell? (ad117.add (x3_1).toNat) = some (.string (rdOf ByteArray.empty l0_2 x3_1))) (ds := []) #[false, false, false, false, false, false, false, false, false] (by kernel_rfl) rfl rfl ⟨(blk_cell BK116.out 0).trans rfl, (blk_cell BK116.out 1).trans rfl, (blk_cell BK116.out 2).trans rfl, (blk_cell BK116.out 3).trans rfl, ((HB.out.cell (World.block_lt_of_cell? w _ hw117_0)).trans hw117_0)⟩ (fun hHeld => ?_); refine with_tabW spec_Unique.tab4 spec_Unique.bits4 (fun HT_ HW_ => ?_)
      generalize wr.drew = w8 at BK116 HB hx117_0 hHeld ⊢
      refine pure_ (i := 1) (N := some 13) (v := ?_) (a' := ?_) #[false, true, false, false, false, false, false, false, false] rfl rfl (any_of HT_.out (by kernel_rfl)) (fun _ _ _ h => h) (Or.inl ⟨by rfl, ?_⟩) ?_ ?_
      rotate_left
      ·
       intro w'
       go_simp
       with_reducible rfl
      rotate_left
      ·
       simp only [Act.put, List.setIfInBounds_toArray, List.set_cons_zero, List.set_cons_succ, i64_w, i32_w]
       rfl
      refine pure_ (i := 3) (N := some 15) (v := ?_) (a' := ?_) #[false, true, false, true, false, false, false, false, false] rfl rfl (any_of HT_.out (by kernel_rfl)) (fun _ _ _ h => h) (Or.inl ⟨by rfl, ?_⟩) ?_ ?_
      rotate_left
      ·
       intro w'
       go_simp
       with_reducible rfl
      rotate_left
      ·
       simp only [Act.put, List.setIfInBounds_toArray, List.set_cons_zero, List.set_cons_succ, i64_w, i32_w]
       rfl
      refine pure_ (i := 7) (N := some 19) (v := ?_) (a' := ?_) #[false, true, false, true, false, false, false, true, false] rfl rfl (any_of HT_.out (by kernel_rfl)) (fun _ _ _ h => h) (Or.inl ⟨by rfl, ?_⟩) ?_ ?_
      rotate_left
      ·
       intro w'
       go_simp
       with_reducible rfl
      rotate_left
      ·
       simp only [Act.put, List.setIfInBounds_toArray, List.set_cons_zero, List.set_cons_succ, i64_w, i32_w]
       rfl
      refine take_ (i := 0) (N := some 12) (v := ?_) (a' := ?_) #[true, true, false, true, false, false, false, true, false] rfl rfl (take_ofW HT_.out HW_.out (by kernel_rfl)) (fun _ _ _ h => h) (Or.inl ⟨by rfl, ?_⟩) hHeld ?_ ?_
      rotate_left
      ·
       rintro w' ⟨s0, s1, s2, s3, s4⟩
       go_simp
       with_reducible rfl
      rotate_left
      ·
       simp only [Act.put, List.setIfInBounds_toArray, List.set_cons_zero, List.set_cons_succ, i64_w, i32_w]
       rfl
      refine take_ (i := 2) (N := some 14) (v := ?_) (a' := ?_) #[true, true, true, true, false, false, false, true, false] rfl rfl (take_ofW HT_.out HW_.out (by kernel_rfl)) (fun _ _ _ h => h) (Or.inl ⟨by rfl, ?_⟩) hHeld ?_ ?_
      rotate_left
      ·
       rintro w' ⟨s0, s1, s2, s3, s4⟩
       go_simp
       with_reducible rfl
      rotate_left
      ·
       simp only [Act.put, List.setIfInBounds_toArray, List.set_cons_zero, List.set_cons_succ, i64_w, i32_w]
       rfl
      refine pure_ (i := 4) (N := some 16) (v := ?_) (a' := ?_) #[true, true, true, true, true, false, false, true, false] rfl rfl (any_of HT_.out (by kernel_rfl)) (fun _ _ _ h => h) (Or.inl ⟨by rfl, ?_⟩) ?_ ?_
      rotate_left
      ·
       intro w'
       go_simp
       with_reducible rfl
      rotate_left
      ·
       simp only [Act.put, List.setIfInBounds_toArray, List.set_cons_zero, List.set_cons_succ, i64_w, i32_w]
       rfl
      refine take_ (i := 5) (N := some 17) (v := ?_) (a' := ?_) #[true, true, true, true, true, true, false, true, false] rfl rfl (take_ofW HT_.out HW_.out (by kernel_rfl)) (fun _ _ _ h => h) (Or.inl ⟨by rfl, ?_⟩) hHeld ?_ ?_
      rotate_left
      ·
       rintro w' ⟨s0, s1, s2, s3, s4⟩
       go_simp
       with_reducible rfl
      rotate_left
      ·
       simp only [Act.put, List.setIfInBounds_toArray, List.set_cons_zero, List.set_cons_succ, i64_w, i32_w]
       rfl
      refine one_ (i := 6) (N := some 18) #[true, true, true, true, true, true, true, true, false] rfl rfl (one_of HT_.out (by kernel_rfl)) (by decide) (fun K hK => ?_)
      refine goes_ Tryd.func45 (by kernel_rfl) rfl #[.agg #[.int .i64 a0_0, .string a0_1, .slice (some ad117) l0_2.length c0_2, .slice A0_3 l0_3.length c0_3], .string (rdOf ByteArray.empty l0_2 x3_1)] (by rfl) rfl rfl (by (try simp only [List.map_toArray, List.map_cons, List.map_nil]); first | done | rfl | (simp only [List.length_drop, List.length_take]; rfl)) ?_
      with_reducible refine (spec_at.calls k1 a0_0 a0_1 _ _ l0_2 _ _ l0_3 (rdOf ByteArray.empty l0_2 x3_1) t118 _ ?side1 ?side2 ?side3 ?side4 A5.out).mono ?_
      (case side1 => repeat (first | exact (Kd.C_below HR0_2.out HB.out) | (with_reducible refine Kd.C_alloc ?_ _) | (with_reducible refine Kd.C_drewN ?_ _) | (with_reducible refine Kd.C_drew ?_)))
      (case side2 => exact HC0_2.out)
      (case side3 => repeat (first | exact (Kd.C_below HR0_3.out HB.out) | (with_reducible refine Kd.C_alloc ?_ _) | (with_reducible refine Kd.C_drewN ?_ _) | (with_reducible refine Kd.C_drew ?_)))
      (case side4 => exact HC0_3.out)
      rintro e w9 ⟨rfl, hb⟩
      refine ⟨_, rfl, ?_⟩
      have n0_ := Aside0.mk (blk_below (g := gb116) (o := .cells #[.int .i64 a0_0, .string a0_1, .slice (some ad117) l0_2.length c0_2, .slice A0_3 l0_3.length c0_3] 25 (0, 0)) (by (with_reducible repeat (first | refine blk_drewN ?_ _ | refine blk_drew ?_ | refine blk_alloc ?_ _)); exact BK116.out) hb)
      have n1_ := Aside0.mk (below_step (by repeat (first | (with_reducible first | exact HB.out | apply below_alloc | apply pw_below_drewN | apply below_drew1 | refine below_set ?_ GE116.out) | exact HB.out)) hb)
      clear BK116
      clear HB
      have BK116 := n0_
      have HB := n1_
      clear n0_ n1_
      (try clear hb)
      (try clear hb2)
      (try clear hk)
      (try clear hi)
      refine hK.out _ _ ⟨(blk_cell BK116.out 0).trans rfl, (blk_cell BK116.out 1).trans rfl, (blk_cell BK116.out 2).trans rfl, (blk_cell BK116.out 3).trans rfl, ((HB.out.cell (World.block_lt_of_cell? w _ hw117_0)).trans hw117_0)⟩ (fun hHeld => ?_)
      clear hK K
      refine norm_ (a' := ?_) ?_ ?_
      rotate_left
      ·
       show Act.put _ (some 18) _ = _
       simp only [Act.put, List.setIfInBounds_toArray, List.set_cons_zero, List.set_cons_succ, i64_w, i32_w]
       rfl
      refine pure_ (i := 8) (N := some 20) (v := ?_) (a' := ?_) #[true, true, true, true, true, true, true, true, true] rfl rfl (any_of HT_.out (by kernel_rfl)) (fun _ _ _ h => h) (Or.inl ⟨by rfl, ?_⟩) ?_ ?_
      rotate_left
      ·
       intro w'
       go_simp
       with_reducible rfl
      rotate_left
      ·
       simp only [Act.put, List.setIfInBounds_toArray, List.set_cons_zero, List.set_cons_succ, i64_w, i32_w]
       rfl
      refine done_ (done_of HT_.out (by kernel_rfl)) ?_
      try go_wp2
      go_roundg k1
      case measure => have := HK1.out; omega
      case rel => exact ⟨(wrap64 (x3_1 + 1)), (by first | rfl | (simp; done) | (simp [*]; done) | (simp; rw [Bool.eq_iff_iff]; simp; done)), H', ⟨by have := HK1.out; omega⟩, ⟨by (with_reducible repeat (first | refine blk_drewN ?_ _ | refine blk_drew ?_ | refine blk_alloc ?_ _)); exact BK116.out⟩, ⟨by repeat (first | (with_reducible first | exact HB.out | apply below_alloc | apply pw_below_drewN | apply below_drew1 | refine below_set ?_ GE116.out) | exact HB.out)⟩⟩
     ·
      rw [if_neg c6] at H
      have c6b0 : (t118 == x3_1) = false := beq_eq_false_iff_ne.mpr c6
      have c6b1 : (t118 != x3_1) = true := bne_iff_ne.mpr c6
      obtain rfl := Option.some.inj H
      have hcz10_0 : wr.cell? ⟨gb116, 0, none⟩ = some (.int .i64 a0_0) := (blk_cell BK116.out 0).trans rfl
      have hcz10_1 : wr.cell? ⟨gb116, 1, none⟩ = some (.string a0_1) := (blk_cell BK116.out 1).trans rfl
      have hcz10_2 : wr.cell? ⟨gb116, 2, none⟩ = some (.slice A0_2 l0_2.length c0_2) := (blk_cell BK116.out 2).trans rfl
      have hcz10_3 : wr.cell? ⟨gb116, 3, none⟩ = some (.slice A0_3 l0_3.length c0_3) := (blk_cell BK116.out 3).trans rfl
      have hfz10_0 := blk_frozen BK116.out 0
      have hfz10_1 := blk_frozen BK116.out 1
      have hfz10_2 := blk_frozen BK116.out 2
      have hfz10_3 := blk_frozen BK116.out 3
      try go_wp2
      have n0_ := Aside0.mk (blk_drew BK116.out)
      have n1_ := Aside0.mk (below_drew1 HB.out)
      clear BK116
      clear HB
      have BK116 := n0_
      have HB := n1_
      clear n0_ n1_
      have p117 : 0 ≤ (x3_1 : Int) := of_decide_eq_true (by first | (with_reducible assumption) | assumption)
      have q117 : x3_1 < (l0_2.length : Int) := of_decide_eq_true (by first | (with_reducible assumption) | assumption)
      obtain ⟨ad117, e117, hx117_0⟩ := Kd.at_string HR0_2.out x3_1 p117 q117
      have hw117_0 := hx117_0
      cases e117
      replace hx117_0 := (HB.out.cell (World.block_lt_of_cell? w _ hx117_0)).trans hx117_0
      replace p117 := eq_true p117
      replace q117 := eq_true q117
      refine start_ (n := 9) (S := fun w' => w'.cell? ⟨gb116, 0, none⟩ = some (.int .i64 a0_0) ∧ w'.cell? ⟨gb116, 1, none⟩ = some (.string a0_1) ∧ w'.cell? ⟨gb116, 2, none⟩ = some (.slice (some ad117) l0_2.length c0_2) ∧ w'.cell? ⟨gb116, 3, none⟩ = some (.slice A0_3 l0_3.length c0_3) ∧ w'.cell? (ad117.add (x3_1).toNat) = some (.string (rdOf ByteArray.empty l0_2 x3_1))) (ds := []) #[false, false, false, false, false, false, false, false, false] (by kernel_rfl) rfl rfl ⟨(blk_cell BK116.out 0).trans rfl, (blk_cell BK116.out 1).trans rfl, (blk_cell BK116.out 2).trans rfl, (blk_cell BK116.out 3).trans rfl, ((HB.out.cell (World.block_lt_of_cell? w _ hw117_0)).trans hw117_0)⟩ (fun hHeld => ?_); refine with_tabW spec_Unique.tab4 spec_Unique.bits4 (fun HT_ HW_ => ?_)
      generalize wr.drew = w11 at BK116 HB hx117_0 hHeld ⊢
      refine pure_ (i := 1) (N := some 13) (v := ?_) (a' := ?_) #[false, true, false, false, false, false, false, false, false] rfl rfl (any_of HT_.out (by kernel_rfl)) (fun _ _ _ h => h) (Or.inl ⟨by rfl, ?_⟩) ?_ ?_
      rotate_left
      ·
       intro w'
       go_simp
       with_reducible rfl
      rotate_left
      ·
       simp only [Act.put, List.setIfInBounds_toArray, List.set_cons_zero, List.set_cons_succ, i64_w, i32_w]
       rfl
      refine pure_ (i := 3) (N := some 15) (v := ?_) (a' := ?_) #[false, true, false, true, false, false, false, false, false] rfl rfl (any_of HT_.out (by kernel_rfl)) (fun _ _ _ h => h) (Or.inl ⟨by rfl, ?_⟩) ?_ ?_
      rotate_left
      ·
       intro w'
       go_simp
       with_reducible rfl
      rotate_left
      ·
       simp only [Act.put, List.setIfInBounds_toArray, List.set_cons_zero, List.set_cons_succ, i64_w, i32_w]
       rfl
      refine pure_ (i := 7) (N := some 19) (v := ?_) (a' := ?_) #[false, true, false, true, false, false, false, true, false] rfl rfl (any_of HT_.out (by kernel_rfl)) (fun _ _ _ h => h) (Or.inl ⟨by rfl, ?_⟩) ?_ ?_
      rotate_left
      ·
       intro w'
       go_simp
       with_reducible rfl
      rotate_left
      ·
       simp only [Act.put, List.setIfInBounds_toArray, List.set_cons_zero, List.set_cons_succ, i64_w, i32_w]
       rfl
      refine take_ (i := 0) (N := some 12) (v := ?_) (a' := ?_) #[true, true, false, true, false, false, false, true, false] rfl rfl (take_ofW HT_.out HW_.out (by kernel_rfl)) (fun _ _ _ h => h) (Or.inl ⟨by rfl, ?_⟩) hHeld ?_ ?_
      rotate_left
      ·
       rintro w' ⟨s0, s1, s2, s3, s4⟩
       go_simp
       with_reducible rfl
      rotate_left
      ·
       simp only [Act.put, List.setIfInBounds_toArray, List.set_cons_zero, List.set_cons_succ, i64_w, i32_w]
       rfl
      refine take_ (i := 2) (N := some 14) (v := ?_) (a' := ?_) #[true, true, true, true, false, false, false, true, false] rfl rfl (take_ofW HT_.out HW_.out (by kernel_rfl)) (fun _ _ _ h => h) (Or.inl ⟨by rfl, ?_⟩) hHeld ?_ ?_
      rotate_left
      ·
       rintro w' ⟨s0, s1, s2, s3, s4⟩
       go_simp
       with_reducible rfl
      rotate_left
      ·
       simp only [Act.put, List.setIfInBounds_toArray, List.set_cons_zero, List.set_cons_succ, i64_w, i32_w]
       rfl
      refine pure_ (i := 4) (N := some 16) (v := ?_) (a' := ?_) #[true, true, true, true, true, false, false, true, false] rfl rfl (any_of HT_.out (by kernel_rfl)) (fun _ _ _ h => h) (Or.inl ⟨by rfl, ?_⟩) ?_ ?_
      rotate_left
      ·
       intro w'
       go_simp
       with_reducible rfl
      rotate_left
      ·
       simp only [Act.put, List.setIfInBounds_toArray, List.set_cons_zero, List.set_cons_succ, i64_w, i32_w]
       rfl
      refine take_ (i := 5) (N := some 17) (v := ?_) (a' := ?_) #[true, true, true, true, true, true, false, true, false] rfl rfl (take_ofW HT_.out HW_.out (by kernel_rfl)) (fun _ _ _ h => h) (Or.inl ⟨by rfl, ?_⟩) hHeld ?_ ?_
      rotate_left
      ·
       rintro w' ⟨s0, s1, s2, s3, s4⟩
       go_simp
       with_reducible rfl
      rotate_left
      ·
       simp only [Act.put, List.setIfInBounds_toArray, List.set_cons_zero, List.set_cons_succ, i64_w, i32_w]
       rfl
      refine one_ (i := 6) (N := some 18) #[true, true, true, true, true, true, true, true, false] rfl rfl (one_of HT_.out (by kernel_rfl)) (by decide) (fun K hK => ?_)
      refine goes_ Tryd.func45 (by kernel_rfl) rfl #[.agg #[.int .i64 a0_0, .string a0_1, .slice (some ad117) l0_2.length c0_2, .slice A0_3 l0_3.length c0_3], .string (rdOf ByteArray.empty l0_2 x3_1)] (by rfl) rfl rfl (by (try simp only [List.map_toArray, List.map_cons, List.map_nil]); first | done | rfl | (simp only [List.length_drop, List.length_take]; rfl)) ?_
      with_reducible refine (spec_at.calls k1 a0_0 a0_1 _ _ l0_2 _ _ l0_3 (rdOf ByteArray.empty l0_2 x3_1) t118 _ ?side1 ?side2 ?side3 ?side4 A5.out).mono ?_
      (case side1 => repeat (first | exact (Kd.C_below HR0_2.out HB.out) | (with_reducible refine Kd.C_alloc ?_ _) | (with_reducible refine Kd.C_drewN ?_ _) | (with_reducible refine Kd.C_drew ?_)))
      (case side2 => exact HC0_2.out)
      (case side3 => repeat (first | exact (Kd.C_below HR0_3.out HB.out) | (with_reducible refine Kd.C_alloc ?_ _) | (with_reducible refine Kd.C_drewN ?_ _) | (with_reducible refine Kd.C_drew ?_)))
      (case side4 => exact HC0_3.out)
      rintro e w12 ⟨rfl, hb⟩
      refine ⟨_, rfl, ?_⟩
      have n0_ := Aside0.mk (blk_below (g := gb116) (o := .cells #[.int .i64 a0_0, .string a0_1, .slice (some ad117) l0_2.length c0_2, .slice A0_3 l0_3.length c0_3] 25 (0, 0)) (by (with_reducible repeat (first | refine blk_drewN ?_ _ | refine blk_drew ?_ | refine blk_alloc ?_ _)); exact BK116.out) hb)
      have n1_ := Aside0.mk (below_step (by repeat (first | (with_reducible first | exact HB.out | apply below_alloc | apply pw_below_drewN | apply below_drew1 | refine below_set ?_ GE116.out) | exact HB.out)) hb)
      clear BK116
      clear HB
      have BK116 := n0_
      have HB := n1_
      clear n0_ n1_
      (try clear hb)
      (try clear hb2)
      (try clear hk)
      (try clear hi)
      refine hK.out _ _ ⟨(blk_cell BK116.out 0).trans rfl, (blk_cell BK116.out 1).trans rfl, (blk_cell BK116.out 2).trans rfl, (blk_cell BK116.out 3).trans rfl, ((HB.out.cell (World.block_lt_of_cell? w _ hw117_0)).trans hw117_0)⟩ (fun hHeld => ?_)
      clear hK K
      refine norm_ (a' := ?_) ?_ ?_
      rotate_left
      ·
       show Act.put _ (some 18) _ = _
       simp only [Act.put, List.setIfInBounds_toArray, List.set_cons_zero, List.set_cons_succ, i64_w, i32_w]
       rfl
      refine pure_ (i := 8) (N := some 20) (v := ?_) (a' := ?_) #[true, true, true, true, true, true, true, true, true] rfl rfl (any_of HT_.out (by kernel_rfl)) (fun _ _ _ h => h) (Or.inl ⟨by rfl, ?_⟩) ?_ ?_
      rotate_left
      ·
       intro w'
       go_simp
       with_reducible rfl
      rotate_left
      ·
       simp only [Act.put, List.setIfInBounds_toArray, List.set_cons_zero, List.set_cons_succ, i64_w, i32_w]
       rfl
      refine done_ (done_of HT_.out (by kernel_rfl)) ?_
      try go_wp2
      go_ret
      exact ⟨by first | rfl | (simp [errW_none, errW_some] <;> rfl) | (simp [*, errW_none, errW_some] <;> rfl), by repeat (first | (with_reducible first | exact HB.out | apply below_alloc | apply pw_below_drewN | apply below_drew1 | refine below_set ?_ GE116.out) | exact HB.out)⟩
    ·
     rw [if_neg c4] at H
     exact absurd H (by simp)
   ·
    rw [if_neg c3] at H
    have c3b0 : decide (x3_1 < (l0_2.length : Int)) = false := decide_eq_false c3
    clear c3
    have H' := Aside0.mk H
    clear H
    have hcz13_0 : wr.cell? ⟨gb116, 0, none⟩ = some (.int .i64 a0_0) := (blk_cell BK116.out 0).trans rfl
    have hcz13_1 : wr.cell? ⟨gb116, 1, none⟩ = some (.string a0_1) := (blk_cell BK116.out 1).trans rfl
    have hcz13_2 : wr.cell? ⟨gb116, 2, none⟩ = some (.slice A0_2 l0_2.length c0_2) := (blk_cell BK116.out 2).trans rfl
    have hcz13_3 : wr.cell? ⟨gb116, 3, none⟩ = some (.slice A0_3 l0_3.length c0_3) := (blk_cell BK116.out 3).trans rfl
    have hfz13_0 := blk_frozen BK116.out 0
    have hfz13_1 := blk_frozen BK116.out 1
    have hfz13_2 := blk_frozen BK116.out 2
    have hfz13_3 := blk_frozen BK116.out 3
    go_wp2
    try simp only [Act.put, List.setIfInBounds_toArray, List.set_cons_succ, List.set_cons_zero]
    go_loopg [4] k1 (fun kq v4 w' => ∃ (x4_2 : Int), v4 = .int .i64 x4_2 ∧ Aside0 (spec_Unique.l1 kq x4_2 a0_0 a0_1 l0_2 l0_3 = some r) ∧ Aside0 (kq ≤ k1) ∧ Aside0 (w'.heap[gb116]? = some (.cells #[.int .i64 a0_0, .string a0_1, (.slice A0_2 l0_2.length c0_2), (.slice A0_3 l0_3.length c0_3)] 25 (0, 0))) ∧ Aside0 (Below w.heap.size w w'))
    case atStart => exact ⟨(0), (by first | rfl | (simp; done) | (simp [*]; done) | (simp; rw [Bool.eq_iff_iff]; simp; done)), H', ⟨Nat.le_refl _⟩, ⟨by (with_reducible repeat (first | refine blk_drewN ?_ _ | refine blk_drew ?_ | refine blk_alloc ?_ _)); exact BK116.out⟩, ⟨by repeat (first | (with_reducible first | exact HB.out | apply below_alloc | apply pw_below_drewN | apply below_drew1 | refine below_set ?_ GE116.out) | exact HB.out)⟩⟩
    case round =>
     clear H'
     (try clear p1); (try clear q1); (try clear hx1); (try clear c2); (try clear p2); (try clear c3); (try clear c3b0); (try clear c4); (try clear c4b0); (try clear c6); (try clear c6b0); (try clear c6b1); (try clear p6); (try clear p11); (try clear q11); (try clear hx11); (try clear hcz10_0); (try clear hcz10_1); (try clear hcz10_2); (try clear hcz10_3); (try clear hcz13_0); (try clear hcz13_1); (try clear hcz13_2); (try clear hcz13_3); (try clear hcz7_0); (try clear hcz7_1); (try clear hcz7_2); (try clear hcz7_3); (try clear hfz10_0); (try clear hfz10_1); (try clear hfz10_2); (try clear hfz10_3); (try clear hfz13_0); (try clear hfz13_1); (try clear hfz13_2); (try clear hfz13_3); (try clear hfz7_0); (try clear hfz7_1); (try clear hfz7_2); (try clear hfz7_3); (try clear hx117_0); (try clear p117); (try clear p2); (try clear q117)
     obtain ⟨x4_2, rfl, HA, HK2, BK116, HB⟩ := hrel
     cases gk with
     | zero => exact absurd HA.out (by simp [spec_Unique.l1])
     | succ k2 =>
      have H := HA.out
      clear HA
      simp only [spec_Unique.l1] at H
      by_cases c14 : x4_2 < (l0_3.length : Int)
      ·
       rw [if_pos c14] at H
       have c14b0 : decide (x4_2 < (l0_3.length : Int)) = true := decide_eq_true c14
       clear c14
       by_cases c15 : 0 ≤ x4_2
       ·
        rw [if_pos c15] at H
        have c15b0 : decide (0 ≤ x4_2) = true := decide_eq_true c15
        clear c15
        replace H := Option.bind_eq_some_iff.mp H
        obtain ⟨t120, A160, H⟩ := H
        replace H : (if t120 = true then (spec_Unique.l1 k2 (wrap64 (x4_2 + 1)) a0_0 a0_1 l0_2 l0_3) else (some false)) = some r := H
        have A16 := Aside0.mk A160
        clear A160
        by_cases c17 : t120 = true
        ·
         subst c17
         have H1 : (spec_Unique.l1 k2 (wrap64 (x4_2 + 1)) a0_0 a0_1 l0_2 l0_3) = some r := by rw [if_pos rfl] at H; exact H
         clear H
         have H := H1
         clear H1
         have H' := Aside0.mk H
         clear H
         have hcz18_0 : wr.cell? ⟨gb116, 0, none⟩ = some (.int .i64 a0_0) := (blk_cell BK116.out 0).trans rfl
         have hcz18_1 : wr.cell? ⟨gb116, 1, none⟩ = some (.string a0_1) := (blk_cell BK116.out 1).trans rfl
         have hcz18_2 : wr.cell? ⟨gb116, 2, none⟩ = some (.slice A0_2 l0_2.length c0_2) := (blk_cell BK116.out 2).trans rfl
         have hcz18_3 : wr.cell? ⟨gb116, 3, none⟩ = some (.slice A0_3 l0_3.length c0_3) := (blk_cell BK116.out 3).trans rfl
         have hfz18_0 := blk_frozen BK116.out 0
         have hfz18_1 := blk_frozen BK116.out 1
         have hfz18_2 := blk_frozen BK116.out 2
         have hfz18_3 := blk_frozen BK116.out 3
         have p119 : 0 ≤ (x4_2 : Int) := of_decide_eq_true (by first | (with_reducible assumption) | assumption)
         have q119 : x4_2 < (l0_3.length : Int) := of_decide_eq_true (by first | (with_reducible assumption) | assumption)
         obtain ⟨ad119, A119_2, c119_2, A119_3, c119_3, e119, hx119_0, hx119_1, hx119_2, hx119_3, hl119_2, hi119_2, hl119_3, hi119_3⟩ := at_T25 HR0_3.out x4_2 p119 q119
         cases e119
         replace hx119_0 := (HB.out.cell (World.block_lt_of_cell? w _ hx119_0)).trans hx119_0
         replace hx119_1 := (HB.out.cell (World.block_lt_of_cell? w _ hx119_1)).trans hx119_1
         replace hx119_2 := (HB.out.cell (World.block_lt_of_cell? w _ hx119_2)).trans hx119_2
         replace hx119_3 := (HB.out.cell (World.block_lt_of_cell? w _ hx119_3)).trans hx119_3
         have HR119_2 := Aside0.mk hi119_2
         have HC119_2 := Aside0.mk hl119_2
         clear hi119_2 hl119_2
         have HR119_3 := Aside0.mk hi119_3
         have HC119_3 := Aside0.mk hl119_3
         clear hi119_3 hl119_3
         replace p119 := eq_true p119
         replace q119 := eq_true q119
         go_wp2_with (first | ((with_reducible refine gate_callee (f := 28) rfl ?_); refine goesL_ (some 33) rfl rfl Tryd.func28 (by kernel_rfl) rfl #[.agg #[.int .i64 ((rd_T25 l0_3 x4_2).f0), .string ((rd_T25 l0_3 x4_2).f1), .slice A119_2 ((rd_T25 l0_3 x4_2).f2).length c119_2, .slice A119_3 ((rd_T25 l0_3 x4_2).f3).length c119_3]] rfl (by (try simp only [List.map_toArray, List.map_cons, List.map_nil]); first | done | rfl | (simp only [List.length_drop, List.length_take]; rfl)) ?_; (with_reducible refine (ih k2 (by have := HK1.out; have := HK2.out; omega) ((rd_T25 l0_3 x4_2).f0) ((rd_T25 l0_3 x4_2).f1) _ _ ((rd_T25 l0_3 x4_2).f2) _ _ ((rd_T25 l0_3 x4_2).f3) true _ ?side1 ?side2 ?side3 ?side4 A16.out).mono ?_); (case side1 => repeat (first | exact (Kd.C_below HR119_2.out HB.out) | (with_reducible refine Kd.C_alloc ?_ _) | (with_reducible refine Kd.C_drewN ?_ _) | (with_reducible refine Kd.C_drew ?_))); (case side2 => exact HC119_2.out); (case side3 => repeat (first | exact (Kd.C_below HR119_3.out HB.out) | (with_reducible refine Kd.C_alloc ?_ _) | (with_reducible refine Kd.C_drewN ?_ _) | (with_reducible refine Kd.C_drew ?_))); (case side4 => exact HC119_3.out); rintro e w19 ⟨rfl, hb⟩; refine ⟨_, rfl, ?_⟩; have n0_ := Aside0.mk (blk_below (g := gb116) (o := .cells #[.int .i64 a0_0, .string a0_1, .slice A0_2 l0_2.length c0_2, .slice (some ad119) l0_3.length c0_3] 25 (0, 0)) (by (with_reducible repeat (first | refine blk_drewN ?_ _ | refine blk_drew ?_ | refine blk_alloc ?_ _)); exact BK116.out) hb); have n1_ := Aside0.mk (below_step (by repeat (first | (with_reducible first | exact HB.out | apply below_alloc | apply pw_below_drewN | apply below_drew1 | refine below_set ?_ GE116.out) | exact HB.out)) hb); clear BK116; clear HB; have BK116 := n0_; have HB := n1_; clear n0_ n1_; (try clear hb); (try clear hb2); (try clear hk); (try clear hi)))
         go_roundg k2
         case measure => have := HK1.out; have := HK2.out; omega
         case rel => exact ⟨(wrap64 (x4_2 + 1)), (by first | rfl | (simp; done) | (simp [*]; done) | (simp; rw [Bool.eq_iff_iff]; simp; done)), H', ⟨by have := HK1.out; have := HK2.out; omega⟩, ⟨by (with_reducible repeat (first | refine blk_drewN ?_ _ | refine blk_drew ?_ | refine blk_alloc ?_ _)); exact BK116.out⟩, ⟨by repeat (first | (with_reducible first | exact HB.out | apply below_alloc | apply pw_below_drewN | apply below_drew1 | refine below_set ?_ GE116.out) | exact HB.out)⟩⟩
        ·
         replace c17 := Bool.eq_false_iff.mpr c17
         subst c17
         have H1 : (some false) = some r := by rw [if_neg (show ¬ (false = true) by decide)] at H; exact H
         clear H
         have H := H1
         clear H1
         obtain rfl := Option.some.inj H
         have hcz20_0 : wr.cell? ⟨gb116, 0, none⟩ = some (.int .i64 a0_0) := (blk_cell BK116.out 0).trans rfl
         have hcz20_1 : wr.cell? ⟨gb116, 1, none⟩ = some (.string a0_1) := (blk_cell BK116.out 1).trans rfl
         have hcz20_2 : wr.cell? ⟨gb116, 2, none⟩ = some (.slice A0_2 l0_2.length c0_2) := (blk_cell BK116.out 2).trans rfl
         have hcz20_3 : wr.cell? ⟨gb116, 3, none⟩ = some (.slice A0_3 l0_3.length c0_3) := (blk_cell BK116.out 3).trans rfl
         have hfz20_0 := blk_frozen BK116.out 0
         have hfz20_1 := blk_frozen BK116.out 1
         have hfz20_2 := blk_frozen BK116.out 2
         have hfz20_3 := blk_frozen BK116.out 3
         have p119 : 0 ≤ (x4_2 : Int) := of_decide_eq_true (by first | (with_reducible assumption) | assumption)
         have q119 : x4_2 < (l0_3.length : Int) := of_decide_eq_true (by first | (with_reducible assumption) | assumption)
         obtain ⟨ad119, A119_2, c119_2, A119_3, c119_3, e119, hx119_0, hx119_1, hx119_2, hx119_3, hl119_2, hi119_2, hl119_3, hi119_3⟩ := at_T25 HR0_3.out x4_2 p119 q119
         cases e119
         replace hx119_0 := (HB.out.cell (World.block_lt_of_cell? w _ hx119_0)).trans hx119_0
         replace hx119_1 := (HB.out.cell (World.block_lt_of_cell? w _ hx119_1)).trans hx119_1
         replace hx119_2 := (HB.out.cell (World.block_lt_of_cell? w _ hx119_2)).trans hx119_2
         replace hx119_3 := (HB.out.cell (World.block_lt_of_cell? w _ hx119_3)).trans hx119_3
         have HR119_2 := Aside0.mk hi119_2
         have HC119_2 := Aside0.mk hl119_2
         clear hi119_2 hl119_2
         have HR119_3 := Aside0.mk hi119_3
         have HC119_3 := Aside0.mk hl119_3
         clear hi119_3 hl119_3
         replace p119 := eq_true p119
         replace q119 := eq_true q119
         go_wp2_with (first | ((with_reducible refine gate_callee (f := 28) rfl ?_); refine goesL_ (some 33) rfl rfl Tryd.func28 (by kernel_rfl) rfl #[.agg #[.int .i64 ((rd_T25 l0_3 x4_2).f0), .string ((rd_T25 l0_3 x4_2).f1), .slice A119_2 ((rd_T25 l0_3 x4_2).f2).length c119_2, .slice A119_3 ((rd_T25 l0_3 x4_2).f3).length c119_3]] rfl (by (try simp only [List.map_toArray, List.map_cons, List.map_nil]); first | done | rfl | (simp only [List.length_drop, List.length_take]; rfl)) ?_; (with_reducible refine (ih k2 (by have := HK1.out; have := HK2.out; omega) ((rd_T25 l0_3 x4_2).f0) ((rd_T25 l0_3 x4_2).f1) _ _ ((rd_T25 l0_3 x4_2).f2) _ _ ((rd_T25 l0_3 x4_2).f3) false _ ?side1 ?side2 ?side3 ?side4 A16.out).mono ?_); (case side1 => repeat (first | exact (Kd.C_below HR119_2.out HB.out) | (with_reducible refine Kd.C_alloc ?_ _) | (with_reducible refine Kd.C_drewN ?_ _) | (with_reducible refine Kd.C_drew ?_))); (case side2 => exact HC119_2.out); (case side3 => repeat (first | exact (Kd.C_below HR119_3.out HB.out) | (with_reducible refine Kd.C_alloc ?_ _) | (with_reducible refine Kd.C_drewN ?_ _) | (with_reducible refine Kd.C_drew ?_))); (case side4 => exact HC119_3.out); rintro e w21 ⟨rfl, hb⟩; refine ⟨_, rfl, ?_⟩; have n0_ := Aside0.mk (blk_below (g := gb116) (o := .cells #[.int .i64 a0_0, .string a0_1, .slice A0_2 l0_2.length c0_2, .slice (some ad119) l0_3.length c0_3] 25 (0, 0)) (by (with_reducible repeat (first | refine blk_drewN ?_ _ | refine blk_drew ?_ | refine blk_alloc ?_ _)); exact BK116.out) hb); have n1_ := Aside0.mk (below_step (by repeat (first | (with_reducible first | exact HB.out | apply below_alloc | apply pw_below_drewN | apply below_drew1 | refine below_set ?_ GE116.out) | exact HB.out)) hb); clear BK116; clear HB; have BK116 := n0_; have HB := n1_; clear n0_ n1_; (try clear hb); (try clear hb2); (try clear hk); (try clear hi)))
         go_ret
         exact ⟨by first | rfl | (simp [errW_none, errW_some] <;> rfl) | (simp [*, errW_none, errW_some] <;> rfl), by repeat (first | (with_reducible first | exact HB.out | apply below_alloc | apply pw_below_drewN | apply below_drew1 | refine below_set ?_ GE116.out) | exact HB.out)⟩
       ·
        rw [if_neg c15] at H
        exact absurd H (by simp)
      ·
       rw [if_neg c14] at H
       have c14b0 : decide (x4_2 < (l0_3.length : Int)) = false := decide_eq_false c14
       clear c14
       obtain rfl := Option.some.inj H
       have hcz22_0 : wr.cell? ⟨gb116, 0, none⟩ = some (.int .i64 a0_0) := (blk_cell BK116.out 0).trans rfl
       have hcz22_1 : wr.cell? ⟨gb116, 1, none⟩ = some (.string a0_1) := (blk_cell BK116.out 1).trans rfl
       have hcz22_2 : wr.cell? ⟨gb116, 2, none⟩ = some (.slice A0_2 l0_2.length c0_2) := (blk_cell BK116.out 2).trans rfl
       have hcz22_3 : wr.cell? ⟨gb116, 3, none⟩ = some (.slice A0_3 l0_3.length c0_3) := (blk_cell BK116.out 3).trans rfl
       have hfz22_0 := blk_frozen BK116.out 0
       have hfz22_1 := blk_frozen BK116.out 1
       have hfz22_2 := blk_frozen BK116.out 2
       have hfz22_3 := blk_frozen BK116.out 3
       go_wp2
       go_ret
       exact ⟨by first | rfl | (simp [errW_none, errW_some] <;> rfl) | (simp [*, errW_none, errW_some] <;> rfl), by repeat (first | (with_reducible first | exact HB.out | apply below_alloc | apply pw_below_drewN | apply below_drew1 | refine below_set ?_ GE116.out) | exact HB.out)⟩

/-! ### spec_high: function 55 -/
def spec_high.f (a0 : Int) : Option (Bool) := if 55296 ≤ a0 then (some (decide (a0 ≤ 56319))) else (some false)
set_option maxHeartbeats 8000000 in
set_option maxRecDepth 100000 in
theorem spec_high.calls (a0 : Int) (r : Bool) (w : World) (h : spec_high.f a0 = some r) :
  Calls Tryd.prog 55 #[.int .i64 a0] w fun e w' => e = .returned (.bool r) ∧ Drawn0 w w' := by
 have H : (if 55296 ≤ a0 then (some (decide (a0 ≤ 56319))) else (some false)) = some r := h
 clear h
 by_cases c2 : 55296 ≤ a0
 ·
  rw [if_pos c2] at H
  have c2b0 : decide (55296 ≤ a0) = true := decide_eq_true c2
  clear c2
  obtain rfl := Option.some.inj H
  go_enter Tryd.func55, Tryd.ntmps55
  go_wp2
  go_ret
  exact ⟨by first | rfl | (simp; done) | (simp [*]; done) | (simp; rw [Bool.eq_iff_iff]; simp; done), by repeat (first | exact Drawn0.refl _ | apply Drawn0.step)⟩
 ·
  rw [if_neg c2] at H
  have c2b0 : decide (55296 ≤ a0) = false := decide_eq_false c2
  clear c2
  obtain rfl := Option.some.inj H
  go_enter Tryd.func55, Tryd.ntmps55
  go_wp2
  go_ret
  exact ⟨by first | rfl | (simp; done) | (simp [*]; done) | (simp; rw [Bool.eq_iff_iff]; simp; done), by repeat (first | exact Drawn0.refl _ | apply Drawn0.step)⟩

/-! ### spec_low: function 56 -/
def spec_low.f (a0 : Int) : Option (Bool) := if 56320 ≤ a0 then (some (decide (a0 ≤ 57343))) else (some false)
set_option maxHeartbeats 8000000 in
set_option maxRecDepth 100000 in
theorem spec_low.calls (a0 : Int) (r : Bool) (w : World) (h : spec_low.f a0 = some r) :
  Calls Tryd.prog 56 #[.int .i64 a0] w fun e w' => e = .returned (.bool r) ∧ Drawn0 w w' := by
 have H : (if 56320 ≤ a0 then (some (decide (a0 ≤ 57343))) else (some false)) = some r := h
 clear h
 by_cases c2 : 56320 ≤ a0
 ·
  rw [if_pos c2] at H
  have c2b0 : decide (56320 ≤ a0) = true := decide_eq_true c2
  clear c2
  obtain rfl := Option.some.inj H
  go_enter Tryd.func56, Tryd.ntmps56
  go_wp2
  go_ret
  exact ⟨by first | rfl | (simp; done) | (simp [*]; done) | (simp; rw [Bool.eq_iff_iff]; simp; done), by repeat (first | exact Drawn0.refl _ | apply Drawn0.step)⟩
 ·
  rw [if_neg c2] at H
  have c2b0 : decide (56320 ≤ a0) = false := decide_eq_false c2
  clear c2
  obtain rfl := Option.some.inj H
  go_enter Tryd.func56, Tryd.ntmps56
  go_wp2
  go_ret
  exact ⟨by first | rfl | (simp; done) | (simp [*]; done) | (simp; rw [Bool.eq_iff_iff]; simp; done), by repeat (first | exact Drawn0.refl _ | apply Drawn0.step)⟩

end Go.Proofs.YtdjogkfgegopfaaDoor.MFnPaMergeAgain
