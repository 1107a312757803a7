-- PRINTED BY print.sh 35421559b90ae4d0a3588c463048766b98c2df88dd9212a6774a882060cdf62d: not written by this session
import Derived.Test.YtifcmhekpbfboaaPFnPaTokenx0
namespace Go.Proofs.Ytifcmhekpbfboaa.PFnPaToken
open Go.RowKit Go.Proofs.YtifcmhekpbfboaaW.PrintWords Go.Proofs.YtifcmhekpbfboaaW.PrintLast Go.Proofs.YtifcmhekpbfboaaW.PrintMore
attribute [local go_sem] max2_int min2_int max_two min_two max_three min_three max_four min_four   -- for this text's walks alone
set_option linter.unusedVariables false
set_option linter.unusedSimpArgs false

/-! ### spec_Tokens: function 13 -/
mutual
def spec_Tokens.l0 : Nat → ByteArray → List ByteArray → List Int → Int → Option (List ByteArray × Bool)
  | 0, _, _, _, _ => none
  | k + 1, x0, x4, x5, x6 => if x6 < (x0.size : Int) then (if 0 ≤ x6 then (if (bt x0 x6) = 47 then (if x4.length < 8796093022208 then (if 0 ≤ (x5.length : Int) then (spec_Tokens.l0 k x0 (x4 ++ [strOfNums x5]) (x5.take (0 : Int).toNat) (wrap64 (x6 + 1))) else (none)) else (none)) else (if (bt x0 x6) = 126 then (if (wrap64 (x6 + 1)) = (x0.size : Int) then (spec_Tokens.j1 k x0 x4 x5 x6 true) else (if 0 ≤ (wrap64 (x6 + 1)) then (if (wrap64 (x6 + 1)) < (x0.size : Int) then (if (bt x0 (wrap64 (x6 + 1))) = 48 then (spec_Tokens.j1 k x0 x4 x5 x6 false) else (spec_Tokens.j1 k x0 x4 x5 x6 ((bt x0 (wrap64 (x6 + 1))) != 49))) else (none)) else (none))) else (if x5.length < 140737488355328 then (spec_Tokens.l0 k x0 x4 (x5 ++ [bt x0 x6]) (wrap64 (x6 + 1))) else (none)))) else (none)) else (if x4.length < 8796093022208 then (some ((x4 ++ [strOfNums x5]), true)) else (none))
def spec_Tokens.j1 : Nat → ByteArray → List ByteArray → List Int → Int → Bool → Option (List ByteArray × Bool)
  | 0, _, _, _, _, _ => none
  | k + 1, x0, x4, x5, x6, x59 => if x59 = true then (some (([] : List ByteArray), false)) else (if 0 ≤ (wrap64 (x6 + 1)) then (if (wrap64 (x6 + 1)) < (x0.size : Int) then (if (bt x0 (wrap64 (x6 + 1))) = 48 then (if x5.length < 140737488355328 then (spec_Tokens.l0 k x0 x4 (x5 ++ [126]) (wrap64 ((wrap64 (x6 + 1)) + 1))) else (none)) else (if x5.length < 140737488355328 then (spec_Tokens.l0 k x0 x4 (x5 ++ [47]) (wrap64 ((wrap64 (x6 + 1)) + 1))) else (none))) else (none)) else (none))
end
def spec_Tokens.f (k : Nat) (a0 : ByteArray) : Option (List ByteArray × Bool) := (some (([] : List ByteArray) : List ByteArray)).bind fun y101 => (if a0.toList = ([] : List UInt8) then (some (y101, true)) else (if 0 < (a0.size : Int) then (if (bt a0 0) = 47 then (spec_Tokens.l0 k a0 y101 (([] : List Int)) 1) else (some (([] : List ByteArray), false))) else (none)))
theorem spec_Tokens.mono_l : ∀ k, (∀ y0 y1 y2 y3, LeO (spec_Tokens.l0 k y0 y1 y2 y3) (spec_Tokens.l0 (k + 1) y0 y1 y2 y3)) ∧ (∀ y0 y1 y2 y3 y4, LeO (spec_Tokens.j1 k y0 y1 y2 y3 y4) (spec_Tokens.j1 (k + 1) y0 y1 y2 y3 y4))
  | 0 => ⟨fun _ _ _ _ r h => by simp [spec_Tokens.l0] at h, fun _ _ _ _ _ r h => by simp [spec_Tokens.j1] at h⟩
  | k + 1 => by
    obtain ⟨ih0, ih1⟩ := spec_Tokens.mono_l k
    refine ⟨?_, ?_⟩
    · intro y0 y1 y2 y3
      unfold spec_Tokens.l0
      repeat' first
      | (with_reducible exact ih0 _ _ _ _)
      | (with_reducible exact ih1 _ _ _ _ _)
      | (with_reducible exact LeO.refl _)
      | (with_reducible exact LeO.none _)
      | (with_reducible refine LeO.ite ?_ ?_)
      | (with_reducible refine LeO.bind ?_ (fun _ => ?_))
      | exact ih0 _ _ _ _
      | exact ih1 _ _ _ _ _
      | exact LeO.none _
      | refine LeO.ite ?_ ?_
      | refine LeO.bind ?_ (fun _ => ?_)
    · intro y0 y1 y2 y3 y4
      unfold spec_Tokens.j1
      repeat' first
      | (with_reducible exact ih0 _ _ _ _)
      | (with_reducible exact ih1 _ _ _ _ _)
      | (with_reducible exact LeO.refl _)
      | (with_reducible exact LeO.none _)
      | (with_reducible refine LeO.ite ?_ ?_)
      | (with_reducible refine LeO.bind ?_ (fun _ => ?_))
      | exact ih0 _ _ _ _
      | exact ih1 _ _ _ _ _
      | exact LeO.none _
      | refine LeO.ite ?_ ?_
      | refine LeO.bind ?_ (fun _ => ?_)
theorem spec_Tokens.mono : ∀ a0 k, LeO (spec_Tokens.f k a0) (spec_Tokens.f (k + 1) a0) := by
  intro a0 k
  obtain ⟨ih0, ih1⟩ := spec_Tokens.mono_l k
  unfold spec_Tokens.f
  repeat' first
      | (with_reducible exact ih0 _ _ _ _)
      | (with_reducible exact ih1 _ _ _ _ _)
      | (with_reducible exact LeO.refl _)
      | (with_reducible exact LeO.none _)
      | (with_reducible refine LeO.ite ?_ ?_)
      | (with_reducible refine LeO.bind ?_ (fun _ => ?_))
      | exact ih0 _ _ _ _
      | exact ih1 _ _ _ _ _
      | exact LeO.none _
      | refine LeO.ite ?_ ?_
      | refine LeO.bind ?_ (fun _ => ?_)
set_option maxHeartbeats 8000000 in
set_option maxRecDepth 100000 in
theorem spec_Tokens.calls (k : Nat) (a0 : ByteArray) (r1 : List ByteArray) (r2 : Bool) (w : World) (h : spec_Tokens.f k a0 = some (r1, r2)) :
    Calls Try.prog 13 #[.string a0] w fun e w' => ∃ v0_ : Value, e = .returned (.tuple #[v0_, .bool r2]) ∧ Kd.R Kd.string 9 w' w.heap.size (fun _ => True) v0_ r1 ∧ Below w.heap.size w w' := by
  have HB := Aside0.mk (Below.refl w.heap.size w)
  have H : ((some (([] : List ByteArray) : List ByteArray)).bind fun y101 => (if a0.toList = ([] : List UInt8) then (some (y101, true)) else (if 0 < (a0.size : Int) then (if (bt a0 0) = 47 then (spec_Tokens.l0 k a0 y101 (([] : List Int)) 1) else (some (([] : List ByteArray), false))) else (none)))) = some (r1, r2) := h
  clear h
  obtain ⟨y101, hy101⟩ : ∃ y_ : List ByteArray, y_ = (([] : List ByteArray)) := ⟨_, rfl⟩
  replace H : (if a0.toList = ([] : List UInt8) then (some (y101, true)) else (if 0 < (a0.size : Int) then (if (bt a0 0) = 47 then (spec_Tokens.l0 k a0 y101 (([] : List Int)) 1) else (some (([] : List ByteArray), false))) else (none))) = some (r1, r2) := by first | (rw [hy101]; with_reducible exact H) | (have H2_ := (Option.bind_some _ _).symm.trans H; rw [hy101]; with_reducible exact H2_) | (have H2_ := (Option.bind_some _ _).symm.trans H; with_reducible exact H2_) | with_reducible exact H | (rw [hy101]; exact H) | exact H
  have Ny101 := Aside0.mk hy101
  clear hy101
  by_cases c2 : a0.toList = ([] : List UInt8)
  · rw [if_pos c2] at H
    have c2b0 : (a0.toList == ([] : List UInt8)) = true := beq_iff_eq.mpr c2
    have c2b1 : (a0.toList != ([] : List UInt8)) = false := bne_eq_false_iff_eq.mpr c2
    clear c2
    simp only [Option.some.injEq, Prod.mk.injEq] at H
    obtain ⟨rfl, rfl⟩ := H
    go_enter Try.func13, Try.ntmps13
    go_wp2_with (first | ((with_reducible refine gate_dst (N := 8) rfl ?_); refine Kd.R_lit Kd.string _ 9 ?hg (N := 8) ?hd (xs := ([] : List ByteArray)) (inner := []) (ok := fun _ => True) (okp := fun _ => True) ?hr ?hp (fun _ hk => hk) trivial (Below.refl _ _) (Nat.le_refl _) (by simp) ?_; (case hd => rfl); (case hg => rfl); (case hr => first | (go_simp; done) | (go_simp; rfl)); (case hp => exact (Reps.none _ _)); intro v102 w3 ho4 hb hg_ hnew_; clear hg_ hnew_; (first | rw [← Ny101.out] at ho4 | (simp only [Int.reduceToNat] at ho4; rw [← Ny101.out] at ho4)); have n0_ := Aside0.mk (Kd.R_lower ho4 (below_size (by repeat (first | (with_reducible first | exact HB.out | apply below_alloc | apply pw_below_drewN | apply below_drew1) | exact HB.out)))); have n1_ := Aside0.mk (below_step (by repeat (first | (with_reducible first | exact HB.out | apply below_alloc | apply pw_below_drewN | apply below_drew1) | exact HB.out)) hb); clear HB; have HO103 := n0_; have HB := n1_; clear n0_ n1_; clear hb ho4))
    go_ret2
    exact ⟨_, by first | rfl | (simp [errW_none, errW_some] <;> rfl) | (simp [*, errW_none, errW_some] <;> rfl), by (with_reducible repeat (first | apply Kd.R_alloc | apply Kd.R_drewN | apply Kd.R_drew)); exact HO103.out, by repeat (first | (with_reducible first | exact HB.out | apply below_alloc | apply pw_below_drewN | apply below_drew1) | exact HB.out)⟩
  · rw [if_neg c2] at H
    have c2b0 : (a0.toList == ([] : List UInt8)) = false := beq_eq_false_iff_ne.mpr c2
    have c2b1 : (a0.toList != ([] : List UInt8)) = true := bne_iff_ne.mpr c2
    by_cases c5 : 0 < (a0.size : Int)
    · rw [if_pos c5] at H
      have c5b0 : decide (0 < (a0.size : Int)) = true := decide_eq_true c5
      have c5b1 : decide (0 < a0.size) = true := decide_eq_true (by omega)
      clear c5
      by_cases c7 : (bt a0 0) = 47
      · rw [if_pos c7] at H
        have c7b0 : ((bt a0 0) == 47) = true := beq_iff_eq.mpr c7
        have c7b1 : ((bt a0 0) != 47) = false := bne_eq_false_iff_eq.mpr c7
        clear c7
        obtain ⟨y104, hy104⟩ : ∃ y_ : List Int, y_ = (([] : List Int)) := ⟨_, rfl⟩
        replace H : (spec_Tokens.l0 k a0 y101 y104 1) = some (r1, r2) := by first | (rw [hy104]; with_reducible exact H) | (have H2_ := (Option.bind_some _ _).symm.trans H; rw [hy104]; with_reducible exact H2_) | (have H2_ := (Option.bind_some _ _).symm.trans H; with_reducible exact H2_) | with_reducible exact H | (rw [hy104]; exact H) | exact H
        have Ny104 := Aside0.mk hy104
        clear hy104
        have H' := Aside0.mk H
        clear H
        go_enter Try.func13, Try.ntmps13
        go_wp2_with (first | ((with_reducible refine gate_dst (N := 8) rfl ?_); refine Kd.R_lit Kd.string _ 9 ?hg (N := 8) ?hd (xs := ([] : List ByteArray)) (inner := []) (ok := fun _ => True) (okp := fun _ => True) ?hr ?hp (fun _ hk => hk) trivial (Below.refl _ _) (Nat.le_refl _) (by simp) ?_; (case hd => rfl); (case hg => rfl); (case hr => first | (go_simp; done) | (go_simp; rfl)); (case hp => exact (Reps.none _ _)); intro v102 w8 ho9 hb hg_ hnew_; clear hg_ hnew_; (first | rw [← Ny101.out] at ho9 | (simp only [Int.reduceToNat] at ho9; rw [← Ny101.out] at ho9)); have n0_ := Aside0.mk (Kd.R_lower ho9 (below_size (by repeat (first | (with_reducible first | exact HB.out | apply below_alloc | apply pw_below_drewN | apply below_drew1) | exact HB.out)))); have n1_ := Aside0.mk (below_step (by repeat (first | (with_reducible first | exact HB.out | apply below_alloc | apply pw_below_drewN | apply below_drew1) | exact HB.out)) hb); clear HB; have HO103 := n0_; have HB := n1_; clear n0_ n1_; clear hb ho9; have p6 : 0 ≤ (0 : Int) := (by omega); have q6 : 0 < a0.size := (by have : (0 : Int) < (a0.size : Int) := of_decide_eq_true (by first | (with_reducible assumption) | assumption); omega); have hx6 : ∀ h : 0 < a0.size, ((a0[0]'h).toNat : Int) = bt a0 0 := bt_at a0 0; clear p6; have qi6 : (0 < (a0.size : Int)) = True := eq_true (of_decide_eq_true (by first | (with_reducible assumption) | assumption)); replace q6 := eq_true q6) | ((with_reducible refine gate_dst (N := 15) rfl ?_); refine Kd.R_lit (Kd.int .u8) _ 5 ?hg (N := 15) ?hd (xs := ([] : List Int)) (inner := []) (ok := fun _ => True) (okp := fun _ => True) ?hr ?hp (fun _ hk => hk) trivial (Below.refl _ _) (Nat.le_refl _) (by simp) ?_; (case hd => rfl); (case hg => rfl); (case hr => first | (go_simp; done) | (go_simp; rfl)); (case hp => exact (Reps.none _ _)); intro v105 w10 ho11 hb hg_ hnew_; clear hg_ hnew_; (first | rw [← Ny104.out] at ho11 | (simp only [Int.reduceToNat] at ho11; rw [← Ny104.out] at ho11)); have n0_ := Aside0.mk (Kd.R_below (by (with_reducible repeat (first | apply Kd.R_alloc | apply Kd.R_drewN | apply Kd.R_drew)); exact HO103.out) hb); have n1_ := Aside0.mk (Kd.R_lower ho11 (below_size (by repeat (first | (with_reducible first | exact HB.out | apply below_alloc | apply pw_below_drewN | apply below_drew1) | exact HB.out)))); have n2_ := Aside0.mk (below_step (by repeat (first | (with_reducible first | exact HB.out | apply below_alloc | apply pw_below_drewN | apply below_drew1) | exact HB.out)) hb); clear HO103; clear HB; have HO103 := n0_; have HO106 := n1_; have HB := n2_; clear n0_ n1_ n2_; clear hb ho11))
        go_loopg [4, 5, 6] k (fun kq v4 v5 v6 w' => ∃ (x4_1 : List ByteArray) (x5_1 : List Int) (x6_1 : Int), v6 = .int .i64 x6_1 ∧ Aside0 (spec_Tokens.l0 kq a0 x4_1 x5_1 x6_1 = some (r1, r2)) ∧ Aside0 (kq ≤ k) ∧ Aside0 (Kd.R Kd.string 9 w' w.heap.size (fun _ => True) v4 x4_1) ∧ Aside0 (Kd.R (Kd.int .u8) 5 w' w.heap.size (fun _ => True) v5 x5_1) ∧ Aside0 (Below w.heap.size w w'))
        case atStart => exact ⟨(y101), (y104), (1), (by first | rfl | (simp; done) | (simp [*]; done)), H', ⟨Nat.le_refl _⟩, ⟨by (with_reducible repeat (first | apply Kd.R_alloc | apply Kd.R_drewN | apply Kd.R_drew)); exact HO103.out⟩, ⟨by (with_reducible repeat (first | apply Kd.R_alloc | apply Kd.R_drewN | apply Kd.R_drew)); exact HO106.out⟩, ⟨by repeat (first | (with_reducible first | exact HB.out | apply below_alloc | apply pw_below_drewN | apply below_drew1) | exact HB.out)⟩⟩
        case round =>
          clear H'
          try clear c1
          try clear c2
          try clear c2b0
          try clear c2b1
          try clear p2
          try clear c5
          try clear c5b0
          try clear c5b1
          try clear p6
          try clear q6
          try clear hx6
          try clear qi6
          try clear c7
          try clear c7b0
          try clear c7b1
          try clear p6
          try clear q6
          obtain ⟨x4_1, x5_1, x6_1, rfl, HA, HK1, HO_4, HO_5, HB⟩ := hrel
          cases gk with
          | zero => exact absurd HA.out (by simp [spec_Tokens.l0])
          | succ k1 =>
            have H := HA.out
            clear HA
            simp only [spec_Tokens.l0] at H
            by_cases c12 : x6_1 < (a0.size : Int)
            · rw [if_pos c12] at H
              have c12b0 : decide (x6_1 < (a0.size : Int)) = true := decide_eq_true c12
              clear c12
              by_cases c13 : 0 ≤ x6_1
              · rw [if_pos c13] at H
                have c13b0 : decide (0 ≤ x6_1) = true := decide_eq_true c13
                clear c13
                by_cases c15 : (bt a0 x6_1) = 47
                · rw [if_pos c15] at H
                  have c15b0 : ((bt a0 x6_1) == 47) = true := beq_iff_eq.mpr c15
                  have c15b1 : ((bt a0 x6_1) != 47) = false := bne_eq_false_iff_eq.mpr c15
                  clear c15
                  by_cases c16 : x4_1.length < 8796093022208
                  · rw [if_pos c16] at H
                    have LMc16 := Aside0.mk c16
                    clear c16
                    obtain ⟨y110, hy110⟩ : ∃ y_ : List ByteArray, y_ = (x4_1 ++ [strOfNums x5_1]) := ⟨_, rfl⟩
                    replace H : (if 0 ≤ (x5_1.length : Int) then (spec_Tokens.l0 k1 a0 y110 (x5_1.take (0 : Int).toNat) (wrap64 (x6_1 + 1))) else (none)) = some (r1, r2) := by first | (rw [hy110]; with_reducible exact H) | (have H2_ := (Option.bind_some _ _).symm.trans H; rw [hy110]; with_reducible exact H2_) | (have H2_ := (Option.bind_some _ _).symm.trans H; with_reducible exact H2_) | with_reducible exact H | (rw [hy110]; exact H) | exact H
                    have Ny110 := Aside0.mk hy110
                    clear hy110
                    by_cases c17 : 0 ≤ (x5_1.length : Int)
                    · rw [if_pos c17] at H
                      have c17b0 := eq_true c17
                      have c17b1 : decide (0 ≤ (x5_1.length : Int)) = true := decide_eq_true c17
                      clear c17
                      obtain ⟨y113, hy113⟩ : ∃ y_ : List Int, y_ = (x5_1.take (0 : Int).toNat) := ⟨_, rfl⟩
                      replace H : (spec_Tokens.l0 k1 a0 y110 y113 (wrap64 (x6_1 + 1))) = some (r1, r2) := by first | (rw [hy113]; with_reducible exact H) | (have H2_ := (Option.bind_some _ _).symm.trans H; rw [hy113]; with_reducible exact H2_) | (have H2_ := (Option.bind_some _ _).symm.trans H; with_reducible exact H2_) | with_reducible exact H | (rw [hy113]; exact H) | exact H
                      have Ny113 := Aside0.mk hy113
                      clear hy113
                      have H' := Aside0.mk H
                      clear H
                      have p14 : 0 ≤ (x6_1 : Int) := of_decide_eq_true (by first | (with_reducible assumption) | assumption)
                      have q14 : x6_1 < (a0.size : Int) := of_decide_eq_true (by first | (with_reducible assumption) | assumption)
                      have hx14 := bt_at a0 x6_1
                      replace p14 := eq_true p14
                      replace q14 := eq_true q14
                      have hcv18 := own_string (P := Try.prog) Try.underlying55 Try.underlying5 Try.underlying9 (Kd.own_of_R HO_5.out)
                      go_wp2_with (first | ((with_reducible refine gate_builtin (b := .append) (xs := #[.tmp 32, .tmp 35]) rfl ?_); at_builtin; refine Kd.R_append Kd.string (w0 := w) w.heap.size rfl (.tmp 32) (.tmp 35) 30 9 (.string ⟨#[]⟩) 16 rfl Try.underlying30 info9 rfl (by decide) (by omega) u4 x4_1 (strOfNums x5_1) [.string (strOfNums x5_1)] (fun _ => True) (fun _ => False) rfl rfl ?aP (fun _ hk => hk.elim) ?aF ?aO ?aB ?aS ?aL ?_; (case aP => exact rfl); (case aB => exact (by repeat (first | (with_reducible first | exact HB.out | apply below_alloc | apply pw_below_drewN | apply below_drew1) | exact HB.out))); (case aF => exact (fun _ _ => trivial)); (case aO => exact (by (with_reducible repeat (first | apply Kd.R_alloc | apply Kd.R_drewN | apply Kd.R_drew)); exact HO_4.out)); (case aS => exact (below_size (by repeat (first | (with_reducible first | exact HB.out | apply below_alloc | apply pw_below_drewN | apply below_drew1) | exact HB.out)))); (case aL => have := LMc16.out; omega); intro v111 w19 ho hb hg hat; rw [← Ny110.out] at ho; have n0_ := Aside0.mk (Kd.R_over' (by (with_reducible repeat (first | apply Kd.R_alloc | apply Kd.R_drewN | apply Kd.R_drew)); exact HO_5.out) (Kd.R_typed (by (with_reducible repeat (first | apply Kd.R_alloc | apply Kd.R_drewN | apply Kd.R_drew)); exact HO_4.out)) (by decide) hg); have n1_ := Aside0.mk (hb); have n2_ := Aside0.mk (ho); clear HO_5; clear HB; clear HO_4; have HO_5 := n0_; have HB := n1_; have HO112 := n2_; clear n0_ n1_ n2_; clear ho hb hg hat; obtain ⟨Ao20, co20, eo20⟩ := Kd.R_slice HO_5.out; subst eo20; have q21 : (0 : Int) ≤ ((x5_1.length : Int) : Int) := of_decide_eq_true (by first | (with_reducible assumption) | assumption); obtain ⟨i021, hi021, _, hsz21, _⟩ := info_parts info5; have hcut21 := cut_to (P := Try.prog) 55 5 .i64 Try.underlying55 hi021 Ao20 x5_1.length co20 0 (by omega) q21 (Kd.R_reads' HO_5.out).2.1; have hr21 := Kd.R_take (m := (0 : Int).toNat) HO_5.out (by omega); have hy21 : y113.length = (0 : Int).toNat := (by rw [Ny113.out, List.length_take]; omega); rw [← Ny113.out] at hr21; rw [← hy21] at hr21 hcut21; clear hy21 hi021 hsz21 HO_5; have HO115 := Aside0.mk hr21; clear hr21; replace q21 := eq_true q21))
                      go_roundg k1
                      case measure => have := HK1.out; omega
                      case rel => exact ⟨(y110), (y113), (wrap64 (x6_1 + 1)), (by first | rfl | (simp; done) | (simp [*]; done)), H', ⟨by have := HK1.out; omega⟩, ⟨by (with_reducible repeat (first | apply Kd.R_alloc | apply Kd.R_drewN | apply Kd.R_drew)); exact HO112.out⟩, ⟨by (with_reducible repeat (first | apply Kd.R_alloc | apply Kd.R_drewN | apply Kd.R_drew)); exact HO115.out⟩, ⟨by repeat (first | (with_reducible first | exact HB.out | apply below_alloc | apply pw_below_drewN | apply below_drew1) | exact HB.out)⟩⟩
                    · rw [if_neg c17] at H
                      exact absurd H (by simp)
                  · rw [if_neg c16] at H
                    exact absurd H (by simp)
                · rw [if_neg c15] at H
                  have c15b0 : ((bt a0 x6_1) == 47) = false := beq_eq_false_iff_ne.mpr c15
                  have c15b1 : ((bt a0 x6_1) != 47) = true := bne_iff_ne.mpr c15
                  by_cases c22 : (bt a0 x6_1) = 126
                  · rw [if_pos c22] at H
                    have c22b0 : ((bt a0 x6_1) == 126) = true := beq_iff_eq.mpr c22
                    have c22b1 : ((bt a0 x6_1) != 126) = false := bne_eq_false_iff_eq.mpr c22
                    clear c22
                    have HC23 := Aside0.mk H
                    clear H
                    have p14 : 0 ≤ (x6_1 : Int) := of_decide_eq_true (by first | (with_reducible assumption) | assumption)
                    have q14 : x6_1 < (a0.size : Int) := of_decide_eq_true (by first | (with_reducible assumption) | assumption)
                    have hx14 := bt_at a0 x6_1
                    replace p14 := eq_true p14
                    replace q14 := eq_true q14
                    go_upto_region 17 with (fail)
                    go_cut [59] (fun v59 wc => ∃ (kq : Nat) (x59_22 : Bool), v59 = .bool x59_22 ∧ Aside0 (spec_Tokens.j1 kq a0 x4_1 x5_1 x6_1 x59_22 = some (r1, r2)) ∧ Aside0 (kq ≤ k1) ∧ Aside0 (Kd.R Kd.string 9 wc w.heap.size (fun _ => True) u4 x4_1) ∧ Aside0 (Kd.R (Kd.int .u8) 5 wc w.heap.size (fun _ => True) u5 x5_1) ∧ Aside0 (Below w.heap.size w wc))
                    case first =>
                      have H := HC23.out
                      clear HC23
                      by_cases c24 : (wrap64 (x6_1 + 1)) = (a0.size : Int)
                      · rw [if_pos c24] at H
                        have c24b0 : ((wrap64 (x6_1 + 1)) == (a0.size : Int)) = true := beq_iff_eq.mpr c24
                        have c24b1 : ((wrap64 (x6_1 + 1)) != (a0.size : Int)) = false := bne_eq_false_iff_eq.mpr c24
                        clear c24
                        (first | rw [c24b0] | (simp only [i64_w, i32_w]; rw [c24b0]) | skip)
                        have H' := Aside0.mk H
                        clear H
                        go_wp2
                        go_meet
                        case rel => exact ⟨_, (true), (by first | rfl | (simp; done) | (simp [*]; done)), H', ⟨by have := HK1.out; first | omega | exact Nat.le_refl _⟩, ⟨by (with_reducible repeat (first | apply Kd.R_alloc | apply Kd.R_drewN | apply Kd.R_drew)); exact HO_4.out⟩, ⟨by (with_reducible repeat (first | apply Kd.R_alloc | apply Kd.R_drewN | apply Kd.R_drew)); exact HO_5.out⟩, ⟨by repeat (first | (with_reducible first | exact HB.out | apply below_alloc | apply pw_below_drewN | apply below_drew1) | exact HB.out)⟩⟩
                      · rw [if_neg c24] at H
                        have c24b0 : ((wrap64 (x6_1 + 1)) == (a0.size : Int)) = false := beq_eq_false_iff_ne.mpr c24
                        have c24b1 : ((wrap64 (x6_1 + 1)) != (a0.size : Int)) = true := bne_iff_ne.mpr c24
                        (first | rw [c24b0] | (simp only [i64_w, i32_w]; rw [c24b0]) | skip)
                        obtain ⟨ji25, hji25⟩ : ∃ j_ : Int, (wrap64 (x6_1 + 1)) = j_ := ⟨_, rfl⟩
                        replace H : (if 0 ≤ (ji25) then (if (ji25) < (a0.size : Int) then (if (bt a0 (ji25)) = 48 then (spec_Tokens.j1 k1 a0 x4_1 x5_1 x6_1 false) else (spec_Tokens.j1 k1 a0 x4_1 x5_1 x6_1 ((bt a0 (ji25)) != 49))) else (none)) else (none)) = some (r1, r2) := by first | (rw [hji25] at H; exact H) | (simp only [hji25] at H ⊢; exact H)
                        (try rw [hji25] at c24b0)
                        (try rw [hji25] at c24b1)
                        have hji25w : (IntKind.i64.wrap (x6_1 + 1)) = ji25 := (i64_w _).trans hji25
                        by_cases c26 : 0 ≤ (ji25)
                        · rw [if_pos c26] at H
                          have c26b0 : decide (0 ≤ (ji25)) = true := decide_eq_true c26
                          clear c26
                          by_cases c27 : (ji25) < (a0.size : Int)
                          · rw [if_pos c27] at H
                            have c27b0 : decide ((ji25) < (a0.size : Int)) = true := decide_eq_true c27
                            clear c27
                            by_cases c29 : (bt a0 (ji25)) = 48
                            · rw [if_pos c29] at H
                              have c29b0 : ((bt a0 (ji25)) == 48) = true := beq_iff_eq.mpr c29
                              have c29b1 : ((bt a0 (ji25)) != 48) = false := bne_eq_false_iff_eq.mpr c29
                              clear c29
                              have H' := Aside0.mk H
                              clear H
                              have p28 : 0 ≤ ((ji25) : Int) := of_decide_eq_true (by first | (with_reducible assumption) | assumption)
                              have q28 : (ji25) < (a0.size : Int) := of_decide_eq_true (by first | (with_reducible assumption) | assumption)
                              have hx28 := bt_at a0 (ji25)
                              replace p28 := eq_true p28
                              replace q28 := eq_true q28
                              go_wp2
                              go_meet
                              case rel => exact ⟨_, (false), (by first | rfl | (simp; done) | (simp [*]; done)), H', ⟨by have := HK1.out; first | omega | exact Nat.le_refl _⟩, ⟨by (with_reducible repeat (first | apply Kd.R_alloc | apply Kd.R_drewN | apply Kd.R_drew)); exact HO_4.out⟩, ⟨by (with_reducible repeat (first | apply Kd.R_alloc | apply Kd.R_drewN | apply Kd.R_drew)); exact HO_5.out⟩, ⟨by repeat (first | (with_reducible first | exact HB.out | apply below_alloc | apply pw_below_drewN | apply below_drew1) | exact HB.out)⟩⟩
                            · rw [if_neg c29] at H
                              have c29b0 : ((bt a0 (ji25)) == 48) = false := beq_eq_false_iff_ne.mpr c29
                              have c29b1 : ((bt a0 (ji25)) != 48) = true := bne_iff_ne.mpr c29
                              have H' := Aside0.mk H
                              clear H
                              have p28 : 0 ≤ ((ji25) : Int) := of_decide_eq_true (by first | (with_reducible assumption) | assumption)
                              have q28 : (ji25) < (a0.size : Int) := of_decide_eq_true (by first | (with_reducible assumption) | assumption)
                              have hx28 := bt_at a0 (ji25)
                              replace p28 := eq_true p28
                              replace q28 := eq_true q28
                              have p30 : 0 ≤ ((ji25) : Int) := of_decide_eq_true (by first | (with_reducible assumption) | assumption)
                              have q30 : (ji25) < (a0.size : Int) := of_decide_eq_true (by first | (with_reducible assumption) | assumption)
                              have hx30 := bt_at a0 (ji25)
                              replace p30 := eq_true p30
                              replace q30 := eq_true q30
                              go_wp2
                              go_meet
                              case rel => exact ⟨_, (((bt a0 (ji25)) != 49)), (by first | rfl | (simp; done) | (simp only [← hji25] <;> (first | rfl | simp)) | (simp [*]; done)), H', ⟨by have := HK1.out; first | omega | exact Nat.le_refl _⟩, ⟨by (with_reducible repeat (first | apply Kd.R_alloc | apply Kd.R_drewN | apply Kd.R_drew)); exact HO_4.out⟩, ⟨by (with_reducible repeat (first | apply Kd.R_alloc | apply Kd.R_drewN | apply Kd.R_drew)); exact HO_5.out⟩, ⟨by repeat (first | (with_reducible first | exact HB.out | apply below_alloc | apply pw_below_drewN | apply below_drew1) | exact HB.out)⟩⟩
                          · rw [if_neg c27] at H
                            exact absurd H (by simp)
                        · rw [if_neg c26] at H
                          exact absurd H (by simp)
                    case rest =>
                      clear HC23
                      try clear c1
                      try clear p1
                      try clear q1
                      try clear hx1
                      try clear hcv1
                      try clear c2
                      try clear c2b0
                      try clear c2b1
                      try clear p2
                      try clear q2
                      try clear hx2
                      try clear p3
                      try clear q3
                      try clear hx3
                      try clear c5
                      try clear c5b0
                      try clear c5b1
                      try clear p6
                      try clear q6
                      try clear hx6
                      try clear qi6
                      try clear c7
                      try clear c7b0
                      try clear c7b1
                      try clear c12
                      try clear c12b0
                      try clear c13
                      try clear c13b0
                      try clear p14
                      try clear q14
                      try clear hx14
                      try clear c15
                      try clear c15b0
                      try clear c15b1
                      try clear c16
                      try clear c17
                      try clear c17b0
                      try clear c17b1
                      try clear hcv18
                      try clear q21
                      try clear c22
                      try clear c22b0
                      try clear c22b1
                      try clear c24
                      try clear c24b0
                      try clear c24b1
                      try clear c26
                      try clear c26b0
                      try clear c27
                      try clear c27b0
                      try clear p28
                      try clear q28
                      try clear hx28
                      try clear c29
                      try clear c29b0
                      try clear c29b1
                      try clear p30
                      try clear q30
                      try clear hx30
                      try clear p14
                      try clear p2
                      try clear p28
                      try clear p30
                      try clear p6
                      try clear q14
                      try clear q21
                      try clear q28
                      try clear q30
                      try clear q6
                      obtain ⟨kq, x59_22, rfl, HA, HJ22, HO_4, HO_5, HB⟩ := hcut
                      cases kq with
                      | zero => exact absurd HA.out (by simp [spec_Tokens.j1])
                      | succ kj22 =>
                        have H := HA.out
                        clear HA
                        simp only [spec_Tokens.j1] at H
                        by_cases c31 : x59_22 = true
                        · subst c31
                          have H1 : (some (([] : List ByteArray), false)) = some (r1, r2) := by rw [if_pos rfl] at H; exact H
                          clear H
                          have H := H1
                          clear H1
                          simp only [Option.some.injEq, Prod.mk.injEq] at H
                          obtain ⟨rfl, rfl⟩ := H
                          go_wp2
                          go_ret2
                          exact ⟨_, by first | rfl | (simp [errW_none, errW_some] <;> rfl) | (simp [*, errW_none, errW_some] <;> rfl), by first | exact Kd.R_nil _ _ _ _ _ | exact Kd.N_nil _ _ _ _ _ | exact Kd.V_nil _ _ _ _ _ | exact Kd.Q_nil _ _ _ _ _ | exact Kd.S_nil _ _ _ _ _, by repeat (first | (with_reducible first | exact HB.out | apply below_alloc | apply pw_below_drewN | apply below_drew1) | exact HB.out)⟩
                        · replace c31 := Bool.eq_false_iff.mpr c31
                          subst c31
                          have H1 : (if 0 ≤ (wrap64 (x6_1 + 1)) then (if (wrap64 (x6_1 + 1)) < (a0.size : Int) then (if (bt a0 (wrap64 (x6_1 + 1))) = 48 then (if x5_1.length < 140737488355328 then (spec_Tokens.l0 kj22 a0 x4_1 (x5_1 ++ [126]) (wrap64 ((wrap64 (x6_1 + 1)) + 1))) else (none)) else (if x5_1.length < 140737488355328 then (spec_Tokens.l0 kj22 a0 x4_1 (x5_1 ++ [47]) (wrap64 ((wrap64 (x6_1 + 1)) + 1))) else (none))) else (none)) else (none)) = some (r1, r2) := by rw [if_neg (show ¬ (false = true) by decide)] at H; exact H
                          clear H
                          have H := H1
                          clear H1
                          obtain ⟨ji32, hji32⟩ : ∃ j_ : Int, (wrap64 (x6_1 + 1)) = j_ := ⟨_, rfl⟩
                          replace H : (if 0 ≤ (ji32) then (if (ji32) < (a0.size : Int) then (if (bt a0 (ji32)) = 48 then (if x5_1.length < 140737488355328 then (spec_Tokens.l0 kj22 a0 x4_1 (x5_1 ++ [126]) (wrap64 ((ji32) + 1))) else (none)) else (if x5_1.length < 140737488355328 then (spec_Tokens.l0 kj22 a0 x4_1 (x5_1 ++ [47]) (wrap64 ((ji32) + 1))) else (none))) else (none)) else (none)) = some (r1, r2) := by first | (rw [hji32] at H; exact H) | (simp only [hji32] at H ⊢; exact H)
                          have hji32w : (IntKind.i64.wrap (x6_1 + 1)) = ji32 := (i64_w _).trans hji32
                          by_cases c33 : 0 ≤ (ji32)
                          · rw [if_pos c33] at H
                            have c33b0 : decide (0 ≤ (ji32)) = true := decide_eq_true c33
                            clear c33
                            by_cases c34 : (ji32) < (a0.size : Int)
                            · rw [if_pos c34] at H
                              have c34b0 : decide ((ji32) < (a0.size : Int)) = true := decide_eq_true c34
                              clear c34
                              by_cases c36 : (bt a0 (ji32)) = 48
                              · rw [if_pos c36] at H
                                have c36b0 : ((bt a0 (ji32)) == 48) = true := beq_iff_eq.mpr c36
                                have c36b1 : ((bt a0 (ji32)) != 48) = false := bne_eq_false_iff_eq.mpr c36
                                clear c36
                                by_cases c37 : x5_1.length < 140737488355328
                                · rw [if_pos c37] at H
                                  have LMc37 := Aside0.mk c37
                                  clear c37
                                  obtain ⟨y116, hy116⟩ : ∃ y_ : List Int, y_ = (x5_1 ++ [126]) := ⟨_, rfl⟩
                                  replace H : (spec_Tokens.l0 kj22 a0 x4_1 y116 (wrap64 ((ji32) + 1))) = some (r1, r2) := by first | (rw [hy116]; with_reducible exact H) | (have H2_ := (Option.bind_some _ _).symm.trans H; rw [hy116]; with_reducible exact H2_) | (have H2_ := (Option.bind_some _ _).symm.trans H; with_reducible exact H2_) | with_reducible exact H | (rw [hy116]; exact H) | exact H
                                  have Ny116 := Aside0.mk hy116
                                  clear hy116
                                  have H' := Aside0.mk H
                                  clear H
                                  have p35 : 0 ≤ ((ji32) : Int) := of_decide_eq_true (by first | (with_reducible assumption) | assumption)
                                  have q35 : (ji32) < (a0.size : Int) := of_decide_eq_true (by first | (with_reducible assumption) | assumption)
                                  have hx35 := bt_at a0 (ji32)
                                  replace p35 := eq_true p35
                                  replace q35 := eq_true q35
                                  go_wp2_with (first | ((with_reducible refine gate_builtin (b := .append) (xs := #[.tmp 66, .tmp 67]) rfl ?_); at_builtin; refine Kd.R_append (Kd.int .u8) (w0 := w) w.heap.size rfl (.tmp 66) (.tmp 67) 55 5 (.int .u8 0) 1 rfl Try.underlying55 info5 rfl (by decide) (by omega) u5 x5_1 126 [.int .u8 126] (fun _ => True) (fun _ => False) rfl rfl ?aP (fun _ hk => hk.elim) ?aF ?aO ?aB ?aS ?aL ?_; (case aP => exact rfl); (case aB => exact (by repeat (first | (with_reducible first | exact HB.out | apply below_alloc | apply pw_below_drewN | apply below_drew1) | exact HB.out))); (case aF => exact (fun _ _ => trivial)); (case aO => exact (by (with_reducible repeat (first | apply Kd.R_alloc | apply Kd.R_drewN | apply Kd.R_drew)); exact HO_5.out)); (case aS => exact (below_size (by repeat (first | (with_reducible first | exact HB.out | apply below_alloc | apply pw_below_drewN | apply below_drew1) | exact HB.out)))); (case aL => have := LMc37.out; omega); intro v117 w38 ho hb hg hat; rw [← Ny116.out] at ho; have n0_ := Aside0.mk (Kd.R_over' (by (with_reducible repeat (first | apply Kd.R_alloc | apply Kd.R_drewN | apply Kd.R_drew)); exact HO_4.out) (Kd.R_typed (by (with_reducible repeat (first | apply Kd.R_alloc | apply Kd.R_drewN | apply Kd.R_drew)); exact HO_5.out)) (by decide) hg); have n1_ := Aside0.mk (hb); have n2_ := Aside0.mk (ho); clear HO_4; clear HB; clear HO_5; have HO_4 := n0_; have HB := n1_; have HO118 := n2_; clear n0_ n1_ n2_; clear ho hb hg hat))
                                  go_roundg kj22
                                  case measure => have := HK1.out; have := HJ22.out; omega
                                  case rel => exact ⟨(x4_1), (y116), (wrap64 ((ji32) + 1)), (by first | rfl | (simp; done) | (simp only [← hji32] <;> (first | rfl | simp)) | (simp [*]; done)), H', ⟨by have := HK1.out; have := HJ22.out; omega⟩, ⟨by (with_reducible repeat (first | apply Kd.R_alloc | apply Kd.R_drewN | apply Kd.R_drew)); exact HO_4.out⟩, ⟨by (with_reducible repeat (first | apply Kd.R_alloc | apply Kd.R_drewN | apply Kd.R_drew)); exact HO118.out⟩, ⟨by repeat (first | (with_reducible first | exact HB.out | apply below_alloc | apply pw_below_drewN | apply below_drew1) | exact HB.out)⟩⟩
                                · rw [if_neg c37] at H
                                  exact absurd H (by simp)
                              · rw [if_neg c36] at H
                                have c36b0 : ((bt a0 (ji32)) == 48) = false := beq_eq_false_iff_ne.mpr c36
                                have c36b1 : ((bt a0 (ji32)) != 48) = true := bne_iff_ne.mpr c36
                                by_cases c39 : x5_1.length < 140737488355328
                                · rw [if_pos c39] at H
                                  have LMc39 := Aside0.mk c39
                                  clear c39
                                  obtain ⟨y119, hy119⟩ : ∃ y_ : List Int, y_ = (x5_1 ++ [47]) := ⟨_, rfl⟩
                                  replace H : (spec_Tokens.l0 kj22 a0 x4_1 y119 (wrap64 ((ji32) + 1))) = some (r1, r2) := by first | (rw [hy119]; with_reducible exact H) | (have H2_ := (Option.bind_some _ _).symm.trans H; rw [hy119]; with_reducible exact H2_) | (have H2_ := (Option.bind_some _ _).symm.trans H; with_reducible exact H2_) | with_reducible exact H | (rw [hy119]; exact H) | exact H
                                  have Ny119 := Aside0.mk hy119
                                  clear hy119
                                  have H' := Aside0.mk H
                                  clear H
                                  have p35 : 0 ≤ ((ji32) : Int) := of_decide_eq_true (by first | (with_reducible assumption) | assumption)
                                  have q35 : (ji32) < (a0.size : Int) := of_decide_eq_true (by first | (with_reducible assumption) | assumption)
                                  have hx35 := bt_at a0 (ji32)
                                  replace p35 := eq_true p35
                                  replace q35 := eq_true q35
                                  go_wp2_with (first | ((with_reducible refine gate_builtin (b := .append) (xs := #[.tmp 69, .tmp 70]) rfl ?_); at_builtin; refine Kd.R_append (Kd.int .u8) (w0 := w) w.heap.size rfl (.tmp 69) (.tmp 70) 55 5 (.int .u8 0) 1 rfl Try.underlying55 info5 rfl (by decide) (by omega) u5 x5_1 47 [.int .u8 47] (fun _ => True) (fun _ => False) rfl rfl ?aP (fun _ hk => hk.elim) ?aF ?aO ?aB ?aS ?aL ?_; (case aP => exact rfl); (case aB => exact (by repeat (first | (with_reducible first | exact HB.out | apply below_alloc | apply pw_below_drewN | apply below_drew1) | exact HB.out))); (case aF => exact (fun _ _ => trivial)); (case aO => exact (by (with_reducible repeat (first | apply Kd.R_alloc | apply Kd.R_drewN | apply Kd.R_drew)); exact HO_5.out)); (case aS => exact (below_size (by repeat (first | (with_reducible first | exact HB.out | apply below_alloc | apply pw_below_drewN | apply below_drew1) | exact HB.out)))); (case aL => have := LMc39.out; omega); intro v120 w40 ho hb hg hat; rw [← Ny119.out] at ho; have n0_ := Aside0.mk (Kd.R_over' (by (with_reducible repeat (first | apply Kd.R_alloc | apply Kd.R_drewN | apply Kd.R_drew)); exact HO_4.out) (Kd.R_typed (by (with_reducible repeat (first | apply Kd.R_alloc | apply Kd.R_drewN | apply Kd.R_drew)); exact HO_5.out)) (by decide) hg); have n1_ := Aside0.mk (hb); have n2_ := Aside0.mk (ho); clear HO_4; clear HB; clear HO_5; have HO_4 := n0_; have HB := n1_; have HO121 := n2_; clear n0_ n1_ n2_; clear ho hb hg hat))
                                  go_roundg kj22
                                  case measure => have := HK1.out; have := HJ22.out; omega
                                  case rel => exact ⟨(x4_1), (y119), (wrap64 ((ji32) + 1)), (by first | rfl | (simp; done) | (simp only [← hji32] <;> (first | rfl | simp)) | (simp [*]; done)), H', ⟨by have := HK1.out; have := HJ22.out; omega⟩, ⟨by (with_reducible repeat (first | apply Kd.R_alloc | apply Kd.R_drewN | apply Kd.R_drew)); exact HO_4.out⟩, ⟨by (with_reducible repeat (first | apply Kd.R_alloc | apply Kd.R_drewN | apply Kd.R_drew)); exact HO121.out⟩, ⟨by repeat (first | (with_reducible first | exact HB.out | apply below_alloc | apply pw_below_drewN | apply below_drew1) | exact HB.out)⟩⟩
                                · rw [if_neg c39] at H
                                  exact absurd H (by simp)
                            · rw [if_neg c34] at H
                              exact absurd H (by simp)
                          · rw [if_neg c33] at H
                            exact absurd H (by simp)
                  · rw [if_neg c22] at H
                    have c22b0 : ((bt a0 x6_1) == 126) = false := beq_eq_false_iff_ne.mpr c22
                    have c22b1 : ((bt a0 x6_1) != 126) = true := bne_iff_ne.mpr c22
                    by_cases c41 : x5_1.length < 140737488355328
                    · rw [if_pos c41] at H
                      have LMc41 := Aside0.mk c41
                      clear c41
                      obtain ⟨y122, hy122⟩ : ∃ y_ : List Int, y_ = (x5_1 ++ [bt a0 x6_1]) := ⟨_, rfl⟩
                      replace H : (spec_Tokens.l0 k1 a0 x4_1 y122 (wrap64 (x6_1 + 1))) = some (r1, r2) := by first | (rw [hy122]; with_reducible exact H) | (have H2_ := (Option.bind_some _ _).symm.trans H; rw [hy122]; with_reducible exact H2_) | (have H2_ := (Option.bind_some _ _).symm.trans H; with_reducible exact H2_) | with_reducible exact H | (rw [hy122]; exact H) | exact H
                      have Ny122 := Aside0.mk hy122
                      clear hy122
                      have H' := Aside0.mk H
                      clear H
                      have p14 : 0 ≤ (x6_1 : Int) := of_decide_eq_true (by first | (with_reducible assumption) | assumption)
                      have q14 : x6_1 < (a0.size : Int) := of_decide_eq_true (by first | (with_reducible assumption) | assumption)
                      have hx14 := bt_at a0 x6_1
                      replace p14 := eq_true p14
                      replace q14 := eq_true q14
                      go_wp2_with (first | ((with_reducible refine gate_builtin (b := .append) (xs := #[.tmp 26, .tmp 28]) rfl ?_); at_builtin; refine Kd.R_append (Kd.int .u8) (w0 := w) w.heap.size rfl (.tmp 26) (.tmp 28) 55 5 (.int .u8 0) 1 rfl Try.underlying55 info5 rfl (by decide) (by omega) u5 x5_1 (bt a0 x6_1) [.int .u8 (bt a0 x6_1)] (fun _ => True) (fun _ => False) rfl rfl ?aP (fun _ hk => hk.elim) ?aF ?aO ?aB ?aS ?aL ?_; (case aP => exact rfl); (case aB => exact (by repeat (first | (with_reducible first | exact HB.out | apply below_alloc | apply pw_below_drewN | apply below_drew1) | exact HB.out))); (case aF => exact (fun _ _ => trivial)); (case aO => exact (by (with_reducible repeat (first | apply Kd.R_alloc | apply Kd.R_drewN | apply Kd.R_drew)); exact HO_5.out)); (case aS => exact (below_size (by repeat (first | (with_reducible first | exact HB.out | apply below_alloc | apply pw_below_drewN | apply below_drew1) | exact HB.out)))); (case aL => have := LMc41.out; omega); intro v123 w42 ho hb hg hat; rw [← Ny122.out] at ho; have n0_ := Aside0.mk (Kd.R_over' (by (with_reducible repeat (first | apply Kd.R_alloc | apply Kd.R_drewN | apply Kd.R_drew)); exact HO_4.out) (Kd.R_typed (by (with_reducible repeat (first | apply Kd.R_alloc | apply Kd.R_drewN | apply Kd.R_drew)); exact HO_5.out)) (by decide) hg); have n1_ := Aside0.mk (hb); have n2_ := Aside0.mk (ho); clear HO_4; clear HB; clear HO_5; have HO_4 := n0_; have HB := n1_; have HO124 := n2_; clear n0_ n1_ n2_; clear ho hb hg hat))
                      go_roundg k1
                      case measure => have := HK1.out; omega
                      case rel => exact ⟨(x4_1), (y122), (wrap64 (x6_1 + 1)), (by first | rfl | (simp; done) | (simp [*]; done)), H', ⟨by have := HK1.out; omega⟩, ⟨by (with_reducible repeat (first | apply Kd.R_alloc | apply Kd.R_drewN | apply Kd.R_drew)); exact HO_4.out⟩, ⟨by (with_reducible repeat (first | apply Kd.R_alloc | apply Kd.R_drewN | apply Kd.R_drew)); exact HO124.out⟩, ⟨by repeat (first | (with_reducible first | exact HB.out | apply below_alloc | apply pw_below_drewN | apply below_drew1) | exact HB.out)⟩⟩
                    · rw [if_neg c41] at H
                      exact absurd H (by simp)
              · rw [if_neg c13] at H
                exact absurd H (by simp)
            · rw [if_neg c12] at H
              have c12b0 : decide (x6_1 < (a0.size : Int)) = false := decide_eq_false c12
              clear c12
              by_cases c43 : x4_1.length < 8796093022208
              · rw [if_pos c43] at H
                have LMc43 := Aside0.mk c43
                clear c43
                obtain ⟨y107, hy107⟩ : ∃ y_ : List ByteArray, y_ = (x4_1 ++ [strOfNums x5_1]) := ⟨_, rfl⟩
                replace H : (some (y107, true)) = some (r1, r2) := by first | (rw [hy107]; with_reducible exact H) | (have H2_ := (Option.bind_some _ _).symm.trans H; rw [hy107]; with_reducible exact H2_) | (have H2_ := (Option.bind_some _ _).symm.trans H; with_reducible exact H2_) | with_reducible exact H | (rw [hy107]; exact H) | exact H
                have Ny107 := Aside0.mk hy107
                clear hy107
                simp only [Option.some.injEq, Prod.mk.injEq] at H
                obtain ⟨rfl, rfl⟩ := H
                have hcv44 := own_string (P := Try.prog) Try.underlying55 Try.underlying5 Try.underlying9 (Kd.own_of_R HO_5.out)
                go_wp2_with (first | ((with_reducible refine gate_builtin (b := .append) (xs := #[.tmp 72, .tmp 75]) rfl ?_); at_builtin; refine Kd.R_append Kd.string (w0 := w) w.heap.size rfl (.tmp 72) (.tmp 75) 30 9 (.string ⟨#[]⟩) 16 rfl Try.underlying30 info9 rfl (by decide) (by omega) u4 x4_1 (strOfNums x5_1) [.string (strOfNums x5_1)] (fun _ => True) (fun _ => False) rfl rfl ?aP (fun _ hk => hk.elim) ?aF ?aO ?aB ?aS ?aL ?_; (case aP => exact rfl); (case aB => exact (by repeat (first | (with_reducible first | exact HB.out | apply below_alloc | apply pw_below_drewN | apply below_drew1) | exact HB.out))); (case aF => exact (fun _ _ => trivial)); (case aO => exact (by (with_reducible repeat (first | apply Kd.R_alloc | apply Kd.R_drewN | apply Kd.R_drew)); exact HO_4.out)); (case aS => exact (below_size (by repeat (first | (with_reducible first | exact HB.out | apply below_alloc | apply pw_below_drewN | apply below_drew1) | exact HB.out)))); (case aL => have := LMc43.out; omega); intro v108 w45 ho hb hg hat; rw [← Ny107.out] at ho; have n0_ := Aside0.mk (Kd.R_over' (by (with_reducible repeat (first | apply Kd.R_alloc | apply Kd.R_drewN | apply Kd.R_drew)); exact HO_5.out) (Kd.R_typed (by (with_reducible repeat (first | apply Kd.R_alloc | apply Kd.R_drewN | apply Kd.R_drew)); exact HO_4.out)) (by decide) hg); have n1_ := Aside0.mk (hb); have n2_ := Aside0.mk (ho); clear HO_5; clear HB; clear HO_4; have HO_5 := n0_; have HB := n1_; have HO109 := n2_; clear n0_ n1_ n2_; clear ho hb hg hat))
                go_ret2
                exact ⟨_, by first | rfl | (simp [errW_none, errW_some] <;> rfl) | (simp [*, errW_none, errW_some] <;> rfl), by (with_reducible repeat (first | apply Kd.R_alloc | apply Kd.R_drewN | apply Kd.R_drew)); exact HO109.out, by repeat (first | (with_reducible first | exact HB.out | apply below_alloc | apply pw_below_drewN | apply below_drew1) | exact HB.out)⟩
              · rw [if_neg c43] at H
                exact absurd H (by simp)
      · rw [if_neg c7] at H
        have c7b0 : ((bt a0 0) == 47) = false := beq_eq_false_iff_ne.mpr c7
        have c7b1 : ((bt a0 0) != 47) = true := bne_iff_ne.mpr c7
        simp only [Option.some.injEq, Prod.mk.injEq] at H
        obtain ⟨rfl, rfl⟩ := H
        go_enter Try.func13, Try.ntmps13
        go_wp2_with (first | ((with_reducible refine gate_dst (N := 8) rfl ?_); refine Kd.R_lit Kd.string _ 9 ?hg (N := 8) ?hd (xs := ([] : List ByteArray)) (inner := []) (ok := fun _ => True) (okp := fun _ => True) ?hr ?hp (fun _ hk => hk) trivial (Below.refl _ _) (Nat.le_refl _) (by simp) ?_; (case hd => rfl); (case hg => rfl); (case hr => first | (go_simp; done) | (go_simp; rfl)); (case hp => exact (Reps.none _ _)); intro v102 w46 ho47 hb hg_ hnew_; clear hg_ hnew_; (first | rw [← Ny101.out] at ho47 | (simp only [Int.reduceToNat] at ho47; rw [← Ny101.out] at ho47)); have n0_ := Aside0.mk (Kd.R_lower ho47 (below_size (by repeat (first | (with_reducible first | exact HB.out | apply below_alloc | apply pw_below_drewN | apply below_drew1) | exact HB.out)))); have n1_ := Aside0.mk (below_step (by repeat (first | (with_reducible first | exact HB.out | apply below_alloc | apply pw_below_drewN | apply below_drew1) | exact HB.out)) hb); clear HB; have HO103 := n0_; have HB := n1_; clear n0_ n1_; clear hb ho47; have p6 : 0 ≤ (0 : Int) := (by omega); have q6 : 0 < a0.size := (by have : (0 : Int) < (a0.size : Int) := of_decide_eq_true (by first | (with_reducible assumption) | assumption); omega); have hx6 : ∀ h : 0 < a0.size, ((a0[0]'h).toNat : Int) = bt a0 0 := bt_at a0 0; clear p6; have qi6 : (0 < (a0.size : Int)) = True := eq_true (of_decide_eq_true (by first | (with_reducible assumption) | assumption)); replace q6 := eq_true q6))
        go_ret2
        exact ⟨_, by first | rfl | (simp [errW_none, errW_some] <;> rfl) | (simp [*, errW_none, errW_some] <;> rfl), by first | exact Kd.R_nil _ _ _ _ _ | exact Kd.N_nil _ _ _ _ _ | exact Kd.V_nil _ _ _ _ _ | exact Kd.Q_nil _ _ _ _ _ | exact Kd.S_nil _ _ _ _ _, by repeat (first | (with_reducible first | exact HB.out | apply below_alloc | apply pw_below_drewN | apply below_drew1) | exact HB.out)⟩
    · rw [if_neg c5] at H
      exact absurd H (by simp)

/-! ### jsonpatch_zzDecode: function 53 -/
mutual
def jsonpatch_zzDecode.l0 : Nat → ByteArray → List Int → Int → Option (ByteArray)
  | 0, _, _, _ => none
  | k + 1, x0, x3, x4 => if x4 < (x0.size : Int) then (if 0 ≤ x4 then (if (bt x0 x4) = 126 then (if (wrap64 (x4 + 1)) < (x0.size : Int) then (if 0 ≤ (wrap64 (x4 + 1)) then (if (bt x0 (wrap64 (x4 + 1))) = 48 then (jsonpatch_zzDecode.j1 k x0 x3 x4 true) else (jsonpatch_zzDecode.j1 k x0 x3 x4 ((bt x0 (wrap64 (x4 + 1))) == 49))) else (none)) else (jsonpatch_zzDecode.j1 k x0 x3 x4 false)) else (jsonpatch_zzDecode.j1 k x0 x3 x4 false)) else (none)) else (some (strOfNums x3))
def jsonpatch_zzDecode.j1 : Nat → ByteArray → List Int → Int → Bool → Option (ByteArray)
  | 0, _, _, _, _ => none
  | k + 1, x0, x3, x4, x35 => if x35 = true then (if 0 ≤ (wrap64 (x4 + 1)) then (if (wrap64 (x4 + 1)) < (x0.size : Int) then (if (bt x0 (wrap64 (x4 + 1))) = 49 then (if x3.length < 140737488355328 then (jsonpatch_zzDecode.l0 k x0 (x3 ++ [47]) (wrap64 ((wrap64 (x4 + 1)) + 1))) else (none)) else (if x3.length < 140737488355328 then (jsonpatch_zzDecode.l0 k x0 (x3 ++ [126]) (wrap64 ((wrap64 (x4 + 1)) + 1))) else (none))) else (none)) else (none)) else (if 0 ≤ x4 then (if x4 < (x0.size : Int) then (if x3.length < 140737488355328 then (jsonpatch_zzDecode.l0 k x0 (x3 ++ [bt x0 x4]) (wrap64 (x4 + 1))) else (none)) else (none)) else (none))
end
def jsonpatch_zzDecode.f (k : Nat) (a0 : ByteArray) : Option (ByteArray) := jsonpatch_zzDecode.l0 k a0 ([] : List Int) 0
theorem jsonpatch_zzDecode.mono_l : ∀ k, (∀ y0 y1 y2, LeO (jsonpatch_zzDecode.l0 k y0 y1 y2) (jsonpatch_zzDecode.l0 (k + 1) y0 y1 y2)) ∧ (∀ y0 y1 y2 y3, LeO (jsonpatch_zzDecode.j1 k y0 y1 y2 y3) (jsonpatch_zzDecode.j1 (k + 1) y0 y1 y2 y3))
  | 0 => ⟨fun _ _ _ r h => by simp [jsonpatch_zzDecode.l0] at h, fun _ _ _ _ r h => by simp [jsonpatch_zzDecode.j1] at h⟩
  | k + 1 => by
    obtain ⟨ih0, ih1⟩ := jsonpatch_zzDecode.mono_l k
    refine ⟨?_, ?_⟩
    · intro y0 y1 y2
      unfold jsonpatch_zzDecode.l0
      repeat' first
      | (with_reducible exact ih0 _ _ _)
      | (with_reducible exact ih1 _ _ _ _)
      | (with_reducible exact LeO.refl _)
      | (with_reducible exact LeO.none _)
      | (with_reducible refine LeO.ite ?_ ?_)
      | (with_reducible refine LeO.bind ?_ (fun _ => ?_))
      | exact ih0 _ _ _
      | exact ih1 _ _ _ _
      | exact LeO.none _
      | refine LeO.ite ?_ ?_
      | refine LeO.bind ?_ (fun _ => ?_)
    · intro y0 y1 y2 y3
      unfold jsonpatch_zzDecode.j1
      repeat' first
      | (with_reducible exact ih0 _ _ _)
      | (with_reducible exact ih1 _ _ _ _)
      | (with_reducible exact LeO.refl _)
      | (with_reducible exact LeO.none _)
      | (with_reducible refine LeO.ite ?_ ?_)
      | (with_reducible refine LeO.bind ?_ (fun _ => ?_))
      | exact ih0 _ _ _
      | exact ih1 _ _ _ _
      | exact LeO.none _
      | refine LeO.ite ?_ ?_
      | refine LeO.bind ?_ (fun _ => ?_)
theorem jsonpatch_zzDecode.mono : ∀ a0 k, LeO (jsonpatch_zzDecode.f k a0) (jsonpatch_zzDecode.f (k + 1) a0) := by
  intro a0 k
  obtain ⟨ih0, ih1⟩ := jsonpatch_zzDecode.mono_l k
  unfold jsonpatch_zzDecode.f
  repeat' first
      | (with_reducible exact ih0 _ _ _)
      | (with_reducible exact ih1 _ _ _ _)
      | (with_reducible exact LeO.refl _)
      | (with_reducible exact LeO.none _)
      | (with_reducible refine LeO.ite ?_ ?_)
      | (with_reducible refine LeO.bind ?_ (fun _ => ?_))
      | exact ih0 _ _ _
      | exact ih1 _ _ _ _
      | exact LeO.none _
      | refine LeO.ite ?_ ?_
      | refine LeO.bind ?_ (fun _ => ?_)
set_option maxHeartbeats 8000000 in
set_option maxRecDepth 100000 in
theorem jsonpatch_zzDecode.calls (k : Nat) (a0 : ByteArray) (r : ByteArray) (w : World) (h : jsonpatch_zzDecode.f k a0 = some r) :
    Calls Try.prog 53 #[.string a0] w fun e w' => e = .returned (.string r) ∧ Below w.heap.size w w' := by
  have HB := Aside0.mk (Below.refl w.heap.size w)
  have H : (jsonpatch_zzDecode.l0 k a0 ([] : List Int) 0) = some r := h
  clear h
  have H' := Aside0.mk H
  clear H
  go_enter Try.func53, Try.ntmps53
  go_wp2
  go_loopg [3, 4] k (fun kq v3 v4 w' => ∃ (x3_1 : List Int) (x4_1 : Int), v4 = .int .i64 x4_1 ∧ Aside0 (jsonpatch_zzDecode.l0 kq a0 x3_1 x4_1 = some r) ∧ Aside0 (kq ≤ k) ∧ Aside0 (Kd.R (Kd.int .u8) 5 w' w.heap.size (fun _ => True) v3 x3_1) ∧ Aside0 (Below w.heap.size w w'))
  case atStart => exact ⟨(([] : List Int)), (0), (by first | rfl | (simp; done) | (simp [*]; done)), H', ⟨Nat.le_refl _⟩, ⟨by first | exact Kd.R_nil _ _ _ _ _ | exact Kd.N_nil _ _ _ _ _ | exact Kd.V_nil _ _ _ _ _ | exact Kd.Q_nil _ _ _ _ _ | exact Kd.S_nil _ _ _ _ _⟩, ⟨by repeat (first | (with_reducible first | exact HB.out | apply below_alloc | apply pw_below_drewN | apply below_drew1) | exact HB.out)⟩⟩
  case round =>
    clear H'
    obtain ⟨x3_1, x4_1, rfl, HA, HK1, HO_3, HB⟩ := hrel
    cases gk with
    | zero => exact absurd HA.out (by simp [jsonpatch_zzDecode.l0])
    | succ k1 =>
      have H := HA.out
      clear HA
      simp only [jsonpatch_zzDecode.l0] at H
      by_cases c2 : x4_1 < (a0.size : Int)
      · rw [if_pos c2] at H
        have c2b0 : decide (x4_1 < (a0.size : Int)) = true := decide_eq_true c2
        clear c2
        have HC3 := Aside0.mk H
        clear H
        go_upto_region 5 with (fail)
        go_cut [35] (fun v35 wc => ∃ (kq : Nat) (x35_2 : Bool), v35 = .bool x35_2 ∧ Aside0 (jsonpatch_zzDecode.j1 kq a0 x3_1 x4_1 x35_2 = some r) ∧ Aside0 (kq ≤ k1) ∧ Aside0 (Kd.R (Kd.int .u8) 5 wc w.heap.size (fun _ => True) u3 x3_1) ∧ Aside0 (Below w.heap.size w wc))
        case first =>
          have H := HC3.out
          clear HC3
          by_cases c4 : 0 ≤ x4_1
          · rw [if_pos c4] at H
            have c4b0 : decide (0 ≤ x4_1) = true := decide_eq_true c4
            clear c4
            (first | rw [c4b0] | (simp only [i64_w, i32_w]; rw [c4b0]) | skip)
            by_cases c6 : (bt a0 x4_1) = 126
            · rw [if_pos c6] at H
              have c6b0 : ((bt a0 x4_1) == 126) = true := beq_iff_eq.mpr c6
              have c6b1 : ((bt a0 x4_1) != 126) = false := bne_eq_false_iff_eq.mpr c6
              clear c6
              by_cases c7 : (wrap64 (x4_1 + 1)) < (a0.size : Int)
              · rw [if_pos c7] at H
                have c7b0 : decide ((wrap64 (x4_1 + 1)) < (a0.size : Int)) = true := decide_eq_true c7
                clear c7
                obtain ⟨ji8, hji8⟩ : ∃ j_ : Int, (wrap64 (x4_1 + 1)) = j_ := ⟨_, rfl⟩
                replace H : (if 0 ≤ (ji8) then (if (bt a0 (ji8)) = 48 then (jsonpatch_zzDecode.j1 k1 a0 x3_1 x4_1 true) else (jsonpatch_zzDecode.j1 k1 a0 x3_1 x4_1 ((bt a0 (ji8)) == 49))) else (none)) = some r := by first | (rw [hji8] at H; exact H) | (simp only [hji8] at H ⊢; exact H)
                (try rw [hji8] at c7b0)
                have hji8w : (IntKind.i64.wrap (x4_1 + 1)) = ji8 := (i64_w _).trans hji8
                by_cases c9 : 0 ≤ (ji8)
                · rw [if_pos c9] at H
                  have c9b0 : decide (0 ≤ (ji8)) = true := decide_eq_true c9
                  clear c9
                  by_cases c11 : (bt a0 (ji8)) = 48
                  · rw [if_pos c11] at H
                    have c11b0 : ((bt a0 (ji8)) == 48) = true := beq_iff_eq.mpr c11
                    have c11b1 : ((bt a0 (ji8)) != 48) = false := bne_eq_false_iff_eq.mpr c11
                    clear c11
                    have H' := Aside0.mk H
                    clear H
                    have p5 : 0 ≤ (x4_1 : Int) := of_decide_eq_true (by first | (with_reducible assumption) | assumption)
                    have q5 : x4_1 < (a0.size : Int) := of_decide_eq_true (by first | (with_reducible assumption) | assumption)
                    have hx5 := bt_at a0 x4_1
                    replace p5 := eq_true p5
                    replace q5 := eq_true q5
                    have p10 : 0 ≤ ((ji8) : Int) := of_decide_eq_true (by first | (with_reducible assumption) | assumption)
                    have q10 : (ji8) < (a0.size : Int) := of_decide_eq_true (by first | (with_reducible assumption) | assumption)
                    have hx10 := bt_at a0 (ji8)
                    replace p10 := eq_true p10
                    replace q10 := eq_true q10
                    go_wp2
                    go_meet
                    case rel => exact ⟨_, (true), (by first | rfl | (simp; done) | (simp [*]; done)), H', ⟨by have := HK1.out; first | omega | exact Nat.le_refl _⟩, ⟨by (with_reducible repeat (first | apply Kd.R_alloc | apply Kd.R_drewN | apply Kd.R_drew)); exact HO_3.out⟩, ⟨by repeat (first | (with_reducible first | exact HB.out | apply below_alloc | apply pw_below_drewN | apply below_drew1) | exact HB.out)⟩⟩
                  · rw [if_neg c11] at H
                    have c11b0 : ((bt a0 (ji8)) == 48) = false := beq_eq_false_iff_ne.mpr c11
                    have c11b1 : ((bt a0 (ji8)) != 48) = true := bne_iff_ne.mpr c11
                    have H' := Aside0.mk H
                    clear H
                    have p5 : 0 ≤ (x4_1 : Int) := of_decide_eq_true (by first | (with_reducible assumption) | assumption)
                    have q5 : x4_1 < (a0.size : Int) := of_decide_eq_true (by first | (with_reducible assumption) | assumption)
                    have hx5 := bt_at a0 x4_1
                    replace p5 := eq_true p5
                    replace q5 := eq_true q5
                    have p10 : 0 ≤ ((ji8) : Int) := of_decide_eq_true (by first | (with_reducible assumption) | assumption)
                    have q10 : (ji8) < (a0.size : Int) := of_decide_eq_true (by first | (with_reducible assumption) | assumption)
                    have hx10 := bt_at a0 (ji8)
                    replace p10 := eq_true p10
                    replace q10 := eq_true q10
                    have p12 : 0 ≤ ((ji8) : Int) := of_decide_eq_true (by first | (with_reducible assumption) | assumption)
                    have q12 : (ji8) < (a0.size : Int) := of_decide_eq_true (by first | (with_reducible assumption) | assumption)
                    have hx12 := bt_at a0 (ji8)
                    replace p12 := eq_true p12
                    replace q12 := eq_true q12
                    go_wp2
                    go_meet
                    case rel => exact ⟨_, (((bt a0 (ji8)) == 49)), (by first | rfl | (simp; done) | (simp only [← hji8] <;> (first | rfl | simp)) | (simp [*]; done)), H', ⟨by have := HK1.out; first | omega | exact Nat.le_refl _⟩, ⟨by (with_reducible repeat (first | apply Kd.R_alloc | apply Kd.R_drewN | apply Kd.R_drew)); exact HO_3.out⟩, ⟨by repeat (first | (with_reducible first | exact HB.out | apply below_alloc | apply pw_below_drewN | apply below_drew1) | exact HB.out)⟩⟩
                · rw [if_neg c9] at H
                  exact absurd H (by simp)
              · rw [if_neg c7] at H
                have c7b0 : decide ((wrap64 (x4_1 + 1)) < (a0.size : Int)) = false := decide_eq_false c7
                clear c7
                have H' := Aside0.mk H
                clear H
                have p5 : 0 ≤ (x4_1 : Int) := of_decide_eq_true (by first | (with_reducible assumption) | assumption)
                have q5 : x4_1 < (a0.size : Int) := of_decide_eq_true (by first | (with_reducible assumption) | assumption)
                have hx5 := bt_at a0 x4_1
                replace p5 := eq_true p5
                replace q5 := eq_true q5
                go_wp2
                go_meet
                case rel => exact ⟨_, (false), (by first | rfl | (simp; done) | (simp [*]; done)), H', ⟨by have := HK1.out; first | omega | exact Nat.le_refl _⟩, ⟨by (with_reducible repeat (first | apply Kd.R_alloc | apply Kd.R_drewN | apply Kd.R_drew)); exact HO_3.out⟩, ⟨by repeat (first | (with_reducible first | exact HB.out | apply below_alloc | apply pw_below_drewN | apply below_drew1) | exact HB.out)⟩⟩
            · rw [if_neg c6] at H
              have c6b0 : ((bt a0 x4_1) == 126) = false := beq_eq_false_iff_ne.mpr c6
              have c6b1 : ((bt a0 x4_1) != 126) = true := bne_iff_ne.mpr c6
              have H' := Aside0.mk H
              clear H
              have p5 : 0 ≤ (x4_1 : Int) := of_decide_eq_true (by first | (with_reducible assumption) | assumption)
              have q5 : x4_1 < (a0.size : Int) := of_decide_eq_true (by first | (with_reducible assumption) | assumption)
              have hx5 := bt_at a0 x4_1
              replace p5 := eq_true p5
              replace q5 := eq_true q5
              go_wp2
              go_meet
              case rel => exact ⟨_, (false), (by first | rfl | (simp; done) | (simp [*]; done)), H', ⟨by have := HK1.out; first | omega | exact Nat.le_refl _⟩, ⟨by (with_reducible repeat (first | apply Kd.R_alloc | apply Kd.R_drewN | apply Kd.R_drew)); exact HO_3.out⟩, ⟨by repeat (first | (with_reducible first | exact HB.out | apply below_alloc | apply pw_below_drewN | apply below_drew1) | exact HB.out)⟩⟩
          · rw [if_neg c4] at H
            exact absurd H (by simp)
        case rest =>
          clear HC3
          try clear c1
          try clear p1
          try clear q1
          try clear hx1
          try clear c2
          try clear c2b0
          try clear p2
          try clear c4
          try clear c4b0
          try clear c5
          try clear p5
          try clear q5
          try clear hx5
          try clear c6
          try clear c6b0
          try clear c6b1
          try clear p6
          try clear c7
          try clear c7b0
          try clear c9
          try clear c9b0
          try clear p10
          try clear q10
          try clear hx10
          try clear c11
          try clear c11b0
          try clear c11b1
          try clear p12
          try clear q12
          try clear hx12
          try clear p10
          try clear p12
          try clear p5
          try clear q10
          try clear q12
          try clear q5
          obtain ⟨kq, x35_2, rfl, HA, HJ2, HO_3, HB⟩ := hcut
          cases kq with
          | zero => exact absurd HA.out (by simp [jsonpatch_zzDecode.j1])
          | succ kj2 =>
            have H := HA.out
            clear HA
            simp only [jsonpatch_zzDecode.j1] at H
            by_cases c13 : x35_2 = true
            · subst c13
              have H1 : (if 0 ≤ (wrap64 (x4_1 + 1)) then (if (wrap64 (x4_1 + 1)) < (a0.size : Int) then (if (bt a0 (wrap64 (x4_1 + 1))) = 49 then (if x3_1.length < 140737488355328 then (jsonpatch_zzDecode.l0 kj2 a0 (x3_1 ++ [47]) (wrap64 ((wrap64 (x4_1 + 1)) + 1))) else (none)) else (if x3_1.length < 140737488355328 then (jsonpatch_zzDecode.l0 kj2 a0 (x3_1 ++ [126]) (wrap64 ((wrap64 (x4_1 + 1)) + 1))) else (none))) else (none)) else (none)) = some r := by rw [if_pos rfl] at H; exact H
              clear H
              have H := H1
              clear H1
              obtain ⟨ji14, hji14⟩ : ∃ j_ : Int, (wrap64 (x4_1 + 1)) = j_ := ⟨_, rfl⟩
              replace H : (if 0 ≤ (ji14) then (if (ji14) < (a0.size : Int) then (if (bt a0 (ji14)) = 49 then (if x3_1.length < 140737488355328 then (jsonpatch_zzDecode.l0 kj2 a0 (x3_1 ++ [47]) (wrap64 ((ji14) + 1))) else (none)) else (if x3_1.length < 140737488355328 then (jsonpatch_zzDecode.l0 kj2 a0 (x3_1 ++ [126]) (wrap64 ((ji14) + 1))) else (none))) else (none)) else (none)) = some r := by first | (rw [hji14] at H; exact H) | (simp only [hji14] at H ⊢; exact H)
              have hji14w : (IntKind.i64.wrap (x4_1 + 1)) = ji14 := (i64_w _).trans hji14
              by_cases c15 : 0 ≤ (ji14)
              · rw [if_pos c15] at H
                have c15b0 : decide (0 ≤ (ji14)) = true := decide_eq_true c15
                clear c15
                by_cases c16 : (ji14) < (a0.size : Int)
                · rw [if_pos c16] at H
                  have c16b0 : decide ((ji14) < (a0.size : Int)) = true := decide_eq_true c16
                  clear c16
                  by_cases c18 : (bt a0 (ji14)) = 49
                  · rw [if_pos c18] at H
                    have c18b0 : ((bt a0 (ji14)) == 49) = true := beq_iff_eq.mpr c18
                    have c18b1 : ((bt a0 (ji14)) != 49) = false := bne_eq_false_iff_eq.mpr c18
                    clear c18
                    by_cases c19 : x3_1.length < 140737488355328
                    · rw [if_pos c19] at H
                      have LMc19 := Aside0.mk c19
                      clear c19
                      obtain ⟨y125, hy125⟩ : ∃ y_ : List Int, y_ = (x3_1 ++ [47]) := ⟨_, rfl⟩
                      replace H : (jsonpatch_zzDecode.l0 kj2 a0 y125 (wrap64 ((ji14) + 1))) = some r := by first | (rw [hy125]; with_reducible exact H) | (have H2_ := (Option.bind_some _ _).symm.trans H; rw [hy125]; with_reducible exact H2_) | (have H2_ := (Option.bind_some _ _).symm.trans H; with_reducible exact H2_) | with_reducible exact H | (rw [hy125]; exact H) | exact H
                      have Ny125 := Aside0.mk hy125
                      clear hy125
                      have H' := Aside0.mk H
                      clear H
                      have p17 : 0 ≤ ((ji14) : Int) := of_decide_eq_true (by first | (with_reducible assumption) | assumption)
                      have q17 : (ji14) < (a0.size : Int) := of_decide_eq_true (by first | (with_reducible assumption) | assumption)
                      have hx17 := bt_at a0 (ji14)
                      replace p17 := eq_true p17
                      replace q17 := eq_true q17
                      go_wp2_with (first | ((with_reducible refine gate_builtin (b := .append) (xs := #[.tmp 41, .tmp 42]) rfl ?_); (try (refine gate_guard (by rfl) ?_; dsimp only)); at_builtin; refine Kd.R_append (Kd.int .u8) (w0 := w) w.heap.size rfl (.tmp 41) (.tmp 42) 55 5 (.int .u8 0) 1 rfl Try.underlying55 info5 rfl (by decide) (by omega) u3 x3_1 47 [.int .u8 47] (fun _ => True) (fun _ => False) rfl rfl ?aP (fun _ hk => hk.elim) ?aF ?aO ?aB ?aS ?aL ?_; (case aP => exact rfl); (case aB => exact (by repeat (first | (with_reducible first | exact HB.out | apply below_alloc | apply pw_below_drewN | apply below_drew1) | exact HB.out))); (case aF => exact (fun _ _ => trivial)); (case aO => exact (by (with_reducible repeat (first | apply Kd.R_alloc | apply Kd.R_drewN | apply Kd.R_drew)); exact HO_3.out)); (case aS => exact (below_size (by repeat (first | (with_reducible first | exact HB.out | apply below_alloc | apply pw_below_drewN | apply below_drew1) | exact HB.out)))); (case aL => have := LMc19.out; omega); intro v126 w20 ho hb hg hat; rw [← Ny125.out] at ho; have n0_ := Aside0.mk (hb); have n1_ := Aside0.mk (ho); clear HB; clear HO_3; have HB := n0_; have HO127 := n1_; clear n0_ n1_; clear ho hb hg hat))
                      go_roundg kj2
                      case measure => have := HK1.out; have := HJ2.out; omega
                      case rel => exact ⟨(y125), (wrap64 ((ji14) + 1)), (by first | rfl | (simp; done) | (simp only [← hji14] <;> (first | rfl | simp)) | (simp [*]; done)), H', ⟨by have := HK1.out; have := HJ2.out; omega⟩, ⟨by (with_reducible repeat (first | apply Kd.R_alloc | apply Kd.R_drewN | apply Kd.R_drew)); exact HO127.out⟩, ⟨by repeat (first | (with_reducible first | exact HB.out | apply below_alloc | apply pw_below_drewN | apply below_drew1) | exact HB.out)⟩⟩
                    · rw [if_neg c19] at H
                      exact absurd H (by simp)
                  · rw [if_neg c18] at H
                    have c18b0 : ((bt a0 (ji14)) == 49) = false := beq_eq_false_iff_ne.mpr c18
                    have c18b1 : ((bt a0 (ji14)) != 49) = true := bne_iff_ne.mpr c18
                    by_cases c21 : x3_1.length < 140737488355328
                    · rw [if_pos c21] at H
                      have LMc21 := Aside0.mk c21
                      clear c21
                      obtain ⟨y128, hy128⟩ : ∃ y_ : List Int, y_ = (x3_1 ++ [126]) := ⟨_, rfl⟩
                      replace H : (jsonpatch_zzDecode.l0 kj2 a0 y128 (wrap64 ((ji14) + 1))) = some r := by first | (rw [hy128]; with_reducible exact H) | (have H2_ := (Option.bind_some _ _).symm.trans H; rw [hy128]; with_reducible exact H2_) | (have H2_ := (Option.bind_some _ _).symm.trans H; with_reducible exact H2_) | with_reducible exact H | (rw [hy128]; exact H) | exact H
                      have Ny128 := Aside0.mk hy128
                      clear hy128
                      have H' := Aside0.mk H
                      clear H
                      have p17 : 0 ≤ ((ji14) : Int) := of_decide_eq_true (by first | (with_reducible assumption) | assumption)
                      have q17 : (ji14) < (a0.size : Int) := of_decide_eq_true (by first | (with_reducible assumption) | assumption)
                      have hx17 := bt_at a0 (ji14)
                      replace p17 := eq_true p17
                      replace q17 := eq_true q17
                      go_wp2_with (first | ((with_reducible refine gate_builtin (b := .append) (xs := #[.tmp 44, .tmp 45]) rfl ?_); (try (refine gate_guard (by rfl) ?_; dsimp only)); at_builtin; refine Kd.R_append (Kd.int .u8) (w0 := w) w.heap.size rfl (.tmp 44) (.tmp 45) 55 5 (.int .u8 0) 1 rfl Try.underlying55 info5 rfl (by decide) (by omega) u3 x3_1 126 [.int .u8 126] (fun _ => True) (fun _ => False) rfl rfl ?aP (fun _ hk => hk.elim) ?aF ?aO ?aB ?aS ?aL ?_; (case aP => exact rfl); (case aB => exact (by repeat (first | (with_reducible first | exact HB.out | apply below_alloc | apply pw_below_drewN | apply below_drew1) | exact HB.out))); (case aF => exact (fun _ _ => trivial)); (case aO => exact (by (with_reducible repeat (first | apply Kd.R_alloc | apply Kd.R_drewN | apply Kd.R_drew)); exact HO_3.out)); (case aS => exact (below_size (by repeat (first | (with_reducible first | exact HB.out | apply below_alloc | apply pw_below_drewN | apply below_drew1) | exact HB.out)))); (case aL => have := LMc21.out; omega); intro v129 w22 ho hb hg hat; rw [← Ny128.out] at ho; have n0_ := Aside0.mk (hb); have n1_ := Aside0.mk (ho); clear HB; clear HO_3; have HB := n0_; have HO130 := n1_; clear n0_ n1_; clear ho hb hg hat))
                      go_roundg kj2
                      case measure => have := HK1.out; have := HJ2.out; omega
                      case rel => exact ⟨(y128), (wrap64 ((ji14) + 1)), (by first | rfl | (simp; done) | (simp only [← hji14] <;> (first | rfl | simp)) | (simp [*]; done)), H', ⟨by have := HK1.out; have := HJ2.out; omega⟩, ⟨by (with_reducible repeat (first | apply Kd.R_alloc | apply Kd.R_drewN | apply Kd.R_drew)); exact HO130.out⟩, ⟨by repeat (first | (with_reducible first | exact HB.out | apply below_alloc | apply pw_below_drewN | apply below_drew1) | exact HB.out)⟩⟩
                    · rw [if_neg c21] at H
                      exact absurd H (by simp)
                · rw [if_neg c16] at H
                  exact absurd H (by simp)
              · rw [if_neg c15] at H
                exact absurd H (by simp)
            · replace c13 := Bool.eq_false_iff.mpr c13
              subst c13
              have H1 : (if 0 ≤ x4_1 then (if x4_1 < (a0.size : Int) then (if x3_1.length < 140737488355328 then (jsonpatch_zzDecode.l0 kj2 a0 (x3_1 ++ [bt a0 x4_1]) (wrap64 (x4_1 + 1))) else (none)) else (none)) else (none)) = some r := by rw [if_neg (show ¬ (false = true) by decide)] at H; exact H
              clear H
              have H := H1
              clear H1
              by_cases c23 : 0 ≤ x4_1
              · rw [if_pos c23] at H
                have c23b0 : decide (0 ≤ x4_1) = true := decide_eq_true c23
                clear c23
                by_cases c24 : x4_1 < (a0.size : Int)
                · rw [if_pos c24] at H
                  have c24b0 : decide (x4_1 < (a0.size : Int)) = true := decide_eq_true c24
                  clear c24
                  by_cases c26 : x3_1.length < 140737488355328
                  · rw [if_pos c26] at H
                    have LMc26 := Aside0.mk c26
                    clear c26
                    obtain ⟨y131, hy131⟩ : ∃ y_ : List Int, y_ = (x3_1 ++ [bt a0 x4_1]) := ⟨_, rfl⟩
                    replace H : (jsonpatch_zzDecode.l0 kj2 a0 y131 (wrap64 (x4_1 + 1))) = some r := by first | (rw [hy131]; with_reducible exact H) | (have H2_ := (Option.bind_some _ _).symm.trans H; rw [hy131]; with_reducible exact H2_) | (have H2_ := (Option.bind_some _ _).symm.trans H; with_reducible exact H2_) | with_reducible exact H | (rw [hy131]; exact H) | exact H
                    have Ny131 := Aside0.mk hy131
                    clear hy131
                    have H' := Aside0.mk H
                    clear H
                    have p25 : 0 ≤ (x4_1 : Int) := of_decide_eq_true (by first | (with_reducible assumption) | assumption)
                    have q25 : x4_1 < (a0.size : Int) := of_decide_eq_true (by first | (with_reducible assumption) | assumption)
                    have hx25 := bt_at a0 x4_1
                    replace p25 := eq_true p25
                    replace q25 := eq_true q25
                    go_wp2_with (first | ((with_reducible refine gate_builtin (b := .append) (xs := #[.tmp 49, .tmp 53]) rfl ?_); (try (refine gate_guard (by rfl) ?_; dsimp only)); at_builtin; refine Kd.R_append (Kd.int .u8) (w0 := w) w.heap.size rfl (.tmp 49) (.tmp 53) 55 5 (.int .u8 0) 1 rfl Try.underlying55 info5 rfl (by decide) (by omega) u3 x3_1 (bt a0 x4_1) [.int .u8 (bt a0 x4_1)] (fun _ => True) (fun _ => False) rfl rfl ?aP (fun _ hk => hk.elim) ?aF ?aO ?aB ?aS ?aL ?_; (case aP => exact rfl); (case aB => exact (by repeat (first | (with_reducible first | exact HB.out | apply below_alloc | apply pw_below_drewN | apply below_drew1) | exact HB.out))); (case aF => exact (fun _ _ => trivial)); (case aO => exact (by (with_reducible repeat (first | apply Kd.R_alloc | apply Kd.R_drewN | apply Kd.R_drew)); exact HO_3.out)); (case aS => exact (below_size (by repeat (first | (with_reducible first | exact HB.out | apply below_alloc | apply pw_below_drewN | apply below_drew1) | exact HB.out)))); (case aL => have := LMc26.out; omega); intro v132 w27 ho hb hg hat; rw [← Ny131.out] at ho; have n0_ := Aside0.mk (hb); have n1_ := Aside0.mk (ho); clear HB; clear HO_3; have HB := n0_; have HO133 := n1_; clear n0_ n1_; clear ho hb hg hat))
                    go_roundg kj2
                    case measure => have := HK1.out; have := HJ2.out; omega
                    case rel => exact ⟨(y131), (wrap64 (x4_1 + 1)), (by first | rfl | (simp; done) | (simp [*]; done)), H', ⟨by have := HK1.out; have := HJ2.out; omega⟩, ⟨by (with_reducible repeat (first | apply Kd.R_alloc | apply Kd.R_drewN | apply Kd.R_drew)); exact HO133.out⟩, ⟨by repeat (first | (with_reducible first | exact HB.out | apply below_alloc | apply pw_below_drewN | apply below_drew1) | exact HB.out)⟩⟩
                  · rw [if_neg c26] at H
                    exact absurd H (by simp)
                · rw [if_neg c24] at H
                  exact absurd H (by simp)
              · rw [if_neg c23] at H
                exact absurd H (by simp)
      · rw [if_neg c2] at H
        have c2b0 : decide (x4_1 < (a0.size : Int)) = false := decide_eq_false c2
        clear c2
        obtain rfl := Option.some.inj H
        have hcv28 := own_string (P := Try.prog) Try.underlying55 Try.underlying5 Try.underlying9 (Kd.own_of_R HO_3.out)
        go_wp2
        go_ret
        exact ⟨by first | rfl | (simp [errW_none, errW_some] <;> rfl) | (simp [*, errW_none, errW_some] <;> rfl), by repeat (first | (with_reducible first | exact HB.out | apply below_alloc | apply pw_below_drewN | apply below_drew1) | exact HB.out)⟩

/-! ### jsonpatch_decodePatchKey: function 43 -/
def jsonpatch_decodePatchKey.f (k : Nat) (a0 : ByteArray) : Option (ByteArray) := (jsonpatch_zzDecode.f k a0).bind fun t134 => (some t134)
theorem jsonpatch_decodePatchKey.mono : ∀ a0 k, LeO (jsonpatch_decodePatchKey.f k a0) (jsonpatch_decodePatchKey.f (k + 1) a0) := by
  intro a0 k
  unfold jsonpatch_decodePatchKey.f
  repeat' first
      | (with_reducible exact jsonpatch_zzDecode.mono _ _)
      | (with_reducible exact LeO.refl _)
      | (with_reducible exact LeO.none _)
      | (with_reducible refine LeO.ite ?_ ?_)
      | (with_reducible refine LeO.bind ?_ (fun _ => ?_))
      | exact jsonpatch_zzDecode.mono _ _
      | exact LeO.none _
      | refine LeO.ite ?_ ?_
      | refine LeO.bind ?_ (fun _ => ?_)
set_option maxHeartbeats 8000000 in
set_option maxRecDepth 100000 in
theorem jsonpatch_decodePatchKey.calls (k : Nat) (a0 : ByteArray) (r : ByteArray) (w : World) (h : jsonpatch_decodePatchKey.f k a0 = some r) :
    Calls Try.prog 43 #[.string a0] w fun e w' => e = .returned (.string r) ∧ Below w.heap.size w w' := by
  have HB := Aside0.mk (Below.refl w.heap.size w)
  have H : ((jsonpatch_zzDecode.f k a0).bind fun t134 => (some t134)) = some r := h
  clear h
  replace H := Option.bind_eq_some_iff.mp H
  obtain ⟨t134, A20, H⟩ := H
  replace H : (some t134) = some r := H
  have A2 := Aside0.mk A20
  clear A20
  obtain rfl := Option.some.inj H
  go_enter Try.func43, Try.ntmps43
  go_wp2_with (first | ((with_reducible refine gate_callee (f := 53) rfl ?_); refine goesL_ (some 4) rfl rfl Try.func53 (by kernel_rfl) rfl #[.string a0] rfl (by (try simp only [List.map_toArray, List.map_cons, List.map_nil]); first | done | rfl | (simp only [List.length_drop, List.length_take]; rfl)) ?_; (with_reducible refine (jsonpatch_zzDecode.calls k a0 t134 _ A2.out).mono ?_); rintro e w3 ⟨rfl, hb⟩; refine ⟨_, rfl, ?_⟩; have n0_ := Aside0.mk (below_step (by repeat (first | (with_reducible first | exact HB.out | apply below_alloc | apply pw_below_drewN | apply below_drew1) | exact HB.out)) hb); clear HB; have HB := n0_; clear n0_; (try clear hb); (try clear hb2); (try clear hk); (try clear hi)))
  go_ret
  exact ⟨by first | rfl | (simp [errW_none, errW_some] <;> rfl) | (simp [*, errW_none, errW_some] <;> rfl), by repeat (first | (with_reducible first | exact HB.out | apply below_alloc | apply pw_below_drewN | apply below_drew1) | exact HB.out)⟩

/-! ### jsonpatch_DoorToken: function 29 -/
def jsonpatch_DoorToken.f (k : Nat) (a0 : ByteArray) : Option (ByteArray) := (jsonpatch_decodePatchKey.f k a0).bind fun t135 => (some t135)
theorem jsonpatch_DoorToken.mono : ∀ a0 k, LeO (jsonpatch_DoorToken.f k a0) (jsonpatch_DoorToken.f (k + 1) a0) := by
  intro a0 k
  unfold jsonpatch_DoorToken.f
  repeat' first
      | (with_reducible exact jsonpatch_decodePatchKey.mono _ _)
      | (with_reducible exact LeO.refl _)
      | (with_reducible exact LeO.none _)
      | (with_reducible refine LeO.ite ?_ ?_)
      | (with_reducible refine LeO.bind ?_ (fun _ => ?_))
      | exact jsonpatch_decodePatchKey.mono _ _
      | exact LeO.none _
      | refine LeO.ite ?_ ?_
      | refine LeO.bind ?_ (fun _ => ?_)
set_option maxHeartbeats 8000000 in
set_option maxRecDepth 100000 in
theorem jsonpatch_DoorToken.calls (k : Nat) (a0 : ByteArray) (r : ByteArray) (w : World) (h : jsonpatch_DoorToken.f k a0 = some r) :
    Calls Try.prog 29 #[.string a0] w fun e w' => e = .returned (.string r) ∧ Below w.heap.size w w' := by
  have HB := Aside0.mk (Below.refl w.heap.size w)
  have H : ((jsonpatch_decodePatchKey.f k a0).bind fun t135 => (some t135)) = some r := h
  clear h
  replace H := Option.bind_eq_some_iff.mp H
  obtain ⟨t135, A20, H⟩ := H
  replace H : (some t135) = some r := H
  have A2 := Aside0.mk A20
  clear A20
  obtain rfl := Option.some.inj H
  go_enter Try.func29, Try.ntmps29
  go_wp2_with (first | ((with_reducible refine gate_callee (f := 43) rfl ?_); refine goesL_ (some 4) rfl rfl Try.func43 (by kernel_rfl) rfl #[.string a0] rfl (by (try simp only [List.map_toArray, List.map_cons, List.map_nil]); first | done | rfl | (simp only [List.length_drop, List.length_take]; rfl)) ?_; (with_reducible refine (jsonpatch_decodePatchKey.calls k a0 t135 _ A2.out).mono ?_); rintro e w3 ⟨rfl, hb⟩; refine ⟨_, rfl, ?_⟩; have n0_ := Aside0.mk (below_step (by repeat (first | (with_reducible first | exact HB.out | apply below_alloc | apply pw_below_drewN | apply below_drew1) | exact HB.out)) hb); clear HB; have HB := n0_; clear n0_; (try clear hb); (try clear hb2); (try clear hk); (try clear hi)))
  go_ret
  exact ⟨by first | rfl | (simp [errW_none, errW_some] <;> rfl) | (simp [*, errW_none, errW_some] <;> rfl), by repeat (first | (with_reducible first | exact HB.out | apply below_alloc | apply pw_below_drewN | apply below_drew1) | exact HB.out)⟩

end Go.Proofs.Ytifcmhekpbfboaa.PFnPaToken
