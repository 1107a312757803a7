/- What Go functions compute, as functions of numbers and lists, and the walks that show it. No condition. Written by a program (wip/tools/mprint.py) over the kit's print. -/
import Derived.Test.YtifcmhekpbfboaaDoorMFnJpStringEnd0
import Derived.Test.YtifcmhekpbfboaaDoorJsGl
import Derived.Test.YtifcmhekpbfboaaDoorJsStr
namespace Go.Proofs.YtifcmhekpbfboaaDoor.MFnJpStringEnd
open Go.RowKit Go.Proofs.YtifcmhekpbfboaaDoorW.PrintWords Go.Proofs.YtifcmhekpbfboaaDoorW.PrintLast Go.Proofs.YtifcmhekpbfboaaDoorW.PrintMore
attribute [local go_sem] max2_int min2_int max_two min_two max_three min_three max_four min_four   -- for this text's walks alone
set_option linter.unusedVariables false
set_option linter.unusedSimpArgs false

/-! ### laws_jpClose: function 10 -/
def laws_jpClose.l0 : Nat → ByteArray → Bool → Int → Option (Int × Bool)
 | 0, _, _, _ => none
 | k + 1, x0, x4, x5 => if x5 < (x0.size : Int) then (if 0 ≤ x5 then (if (bt x0 x5) = 92 then (laws_jpClose.l0 k x0 true (wrap64 ((wrap64 (x5 + 1)) + 1))) else (if (bt x0 x5) = 34 then (some (wrap64 (x5 + 1), x4)) else (laws_jpClose.l0 k x0 x4 (wrap64 (x5 + 1))))) else (none)) else (some ((-1), false))
def laws_jpClose.f (k : Nat) (a0 : ByteArray) : Option (Int × Bool) := laws_jpClose.l0 k a0 false 0
theorem laws_jpClose.mono_l : ∀ k, (∀ y0 y1 y2, LeO (laws_jpClose.l0 k y0 y1 y2) (laws_jpClose.l0 (k + 1) y0 y1 y2))
 | 0 => fun _ _ _ r h => by simp [laws_jpClose.l0] at h
 | k + 1 => by
  have ih0 := laws_jpClose.mono_l k
  ·
   intro y0 y1 y2
   unfold laws_jpClose.l0
   repeat' first
   | (with_reducible exact ih0 _ _ _)
   | (with_reducible exact LeO.refl _)
   | (with_reducible exact LeO.none _)
   | (with_reducible refine LeO.ite ?_ ?_)
   | (with_reducible refine LeO.bind ?_ (fun _ => ?_))
   | exact ih0 _ _ _
   | exact LeO.none _
   | refine LeO.ite ?_ ?_
   | refine LeO.bind ?_ (fun _ => ?_)
theorem laws_jpClose.mono : ∀ a0 k, LeO (laws_jpClose.f k a0) (laws_jpClose.f (k + 1) a0) := by
 intro a0 k
 have ih0 := laws_jpClose.mono_l k
 unfold laws_jpClose.f
 repeat' first
   | (with_reducible exact ih0 _ _ _)
   | (with_reducible exact LeO.refl _)
   | (with_reducible exact LeO.none _)
   | (with_reducible refine LeO.ite ?_ ?_)
   | (with_reducible refine LeO.bind ?_ (fun _ => ?_))
   | exact ih0 _ _ _
   | exact LeO.none _
   | refine LeO.ite ?_ ?_
   | refine LeO.bind ?_ (fun _ => ?_)
set_option maxHeartbeats 8000000 in
set_option maxRecDepth 100000 in
theorem laws_jpClose.calls (k : Nat) (a0 : ByteArray) (r1 : Int) (r2 : Bool) (w : World) (h : laws_jpClose.f k a0 = some (r1, r2)) :
  Calls Tryd.prog 10 #[.string a0] w fun e w' => e = .returned (.tuple #[.int .i64 r1, .bool r2]) ∧ Drawn0 w w' := by
 have H : (laws_jpClose.l0 k a0 false 0) = some (r1, r2) := h
 clear h
 have H' := Aside0.mk H
 clear H
 go_enter Tryd.func10, Tryd.ntmps10
 go_wp2
 go_loopg [4, 5] k (fun kq v4 v5 w' => ∃ (x4_1 : Bool) (x5_1 : Int), v4 = .bool x4_1 ∧ v5 = .int .i64 x5_1 ∧ Aside0 (laws_jpClose.l0 kq a0 x4_1 x5_1 = some (r1, r2)) ∧ Aside0 (kq ≤ k) ∧ Drawn0 w w')
 case atStart => exact ⟨(false), (0), (by first | rfl | (simp; done) | (simp [*]; done) | (simp; rw [Bool.eq_iff_iff]; simp; done)), (by first | rfl | (simp; done) | (simp [*]; done) | (simp; rw [Bool.eq_iff_iff]; simp; done)), H', ⟨Nat.le_refl _⟩, by repeat (first | exact Drawn0.refl _ | apply Drawn0.step)⟩
 case round =>
  clear H'
  (try clear c1)
  obtain ⟨x4_1, x5_1, rfl, rfl, HA, HK1, ⟨m1, rfl⟩⟩ := hrel
  cases gk with
  | zero => exact absurd HA.out (by simp [laws_jpClose.l0])
  | succ k1 =>
   have H := HA.out
   clear HA
   simp only [laws_jpClose.l0] at H
   by_cases c2 : x5_1 < (a0.size : Int)
   ·
    rw [if_pos c2] at H
    have c2b0 : decide (x5_1 < (a0.size : Int)) = true := decide_eq_true c2
    clear c2
    by_cases c3 : 0 ≤ x5_1
    ·
     rw [if_pos c3] at H
     have c3b0 : decide (0 ≤ x5_1) = true := decide_eq_true c3
     clear c3
     by_cases c5 : (bt a0 x5_1) = 92
     ·
      rw [if_pos c5] at H
      have c5b0 : ((bt a0 x5_1) == 92) = true := beq_iff_eq.mpr c5
      have c5b1 : ((bt a0 x5_1) != 92) = false := bne_eq_false_iff_eq.mpr c5
      clear c5
      have H' := Aside0.mk H
      clear H
      have p4 : 0 ≤ (x5_1 : Int) := of_decide_eq_true (by first | (with_reducible assumption) | assumption)
      have q4 : x5_1 < (a0.size : Int) := of_decide_eq_true (by first | (with_reducible assumption) | assumption)
      have hx4 := bt_at a0 x5_1
      replace p4 := eq_true p4
      replace q4 := eq_true q4
      go_wp2
      go_roundg k1
      case measure => have := HK1.out; omega
      case rel => exact ⟨(true), (wrap64 ((wrap64 (x5_1 + 1)) + 1)), (by first | rfl | (simp; done) | (simp [*]; done) | (simp; rw [Bool.eq_iff_iff]; simp; done)), (by first | rfl | (simp; done) | (simp [*]; done) | (simp; rw [Bool.eq_iff_iff]; simp; done)), H', ⟨by have := HK1.out; omega⟩, by repeat (first | exact Drawn0.refl _ | apply Drawn0.step)⟩
     ·
      rw [if_neg c5] at H
      have c5b0 : ((bt a0 x5_1) == 92) = false := beq_eq_false_iff_ne.mpr c5
      have c5b1 : ((bt a0 x5_1) != 92) = true := bne_iff_ne.mpr c5
      by_cases c6 : (bt a0 x5_1) = 34
      ·
       rw [if_pos c6] at H
       have c6b0 : ((bt a0 x5_1) == 34) = true := beq_iff_eq.mpr c6
       have c6b1 : ((bt a0 x5_1) != 34) = false := bne_eq_false_iff_eq.mpr c6
       clear c6
       simp only [Option.some.injEq, Prod.mk.injEq] at H
       obtain ⟨rfl, rfl⟩ := H
       have p4 : 0 ≤ (x5_1 : Int) := of_decide_eq_true (by first | (with_reducible assumption) | assumption)
       have q4 : x5_1 < (a0.size : Int) := of_decide_eq_true (by first | (with_reducible assumption) | assumption)
       have hx4 := bt_at a0 x5_1
       replace p4 := eq_true p4
       replace q4 := eq_true q4
       go_wp2
       go_ret2
       exact ⟨by first | rfl | (simp; done) | (simp [*]; done) | (simp; rw [Bool.eq_iff_iff]; simp; done), by repeat (first | exact Drawn0.refl _ | apply Drawn0.step)⟩
      ·
       rw [if_neg c6] at H
       have c6b0 : ((bt a0 x5_1) == 34) = false := beq_eq_false_iff_ne.mpr c6
       have c6b1 : ((bt a0 x5_1) != 34) = true := bne_iff_ne.mpr c6
       have H' := Aside0.mk H
       clear H
       have p4 : 0 ≤ (x5_1 : Int) := of_decide_eq_true (by first | (with_reducible assumption) | assumption)
       have q4 : x5_1 < (a0.size : Int) := of_decide_eq_true (by first | (with_reducible assumption) | assumption)
       have hx4 := bt_at a0 x5_1
       replace p4 := eq_true p4
       replace q4 := eq_true q4
       go_wp2
       go_roundg k1
       case measure => have := HK1.out; omega
       case rel => exact ⟨(x4_1), (wrap64 (x5_1 + 1)), (by first | rfl | (simp; done) | (simp [*]; done) | (simp; rw [Bool.eq_iff_iff]; simp; done)), (by first | rfl | (simp; done) | (simp [*]; done) | (simp; rw [Bool.eq_iff_iff]; simp; done)), H', ⟨by have := HK1.out; omega⟩, by repeat (first | exact Drawn0.refl _ | apply Drawn0.step)⟩
    ·
     rw [if_neg c3] at H
     exact absurd H (by simp)
   ·
    rw [if_neg c2] at H
    have c2b0 : decide (x5_1 < (a0.size : Int)) = false := decide_eq_false c2
    clear c2
    simp only [Option.some.injEq, Prod.mk.injEq] at H
    obtain ⟨rfl, rfl⟩ := H
    go_wp2
    go_ret2
    exact ⟨by first | rfl | (simp; done) | (simp [*]; done) | (simp; rw [Bool.eq_iff_iff]; simp; done), by repeat (first | exact Drawn0.refl _ | apply Drawn0.step)⟩

/-! ### laws_FnJpStringEnd: function 4 -/
def laws_FnJpStringEnd.f (k : Nat) (a0 : ByteArray) : Option (Bool) := if (a0.size : Int) > 2147483647 then (some true) else (if (a0.size : Int) > 65536 then (some true) else ((impl_JpStringEnd.f a0).bind fun bt101 => ((laws_jpClose.f k a0).bind fun bt103 => (if bt101.1 = bt103.1 then (if bt103.1 < 0 then (some true) else (some (bt101.2 == bt103.2))) else (some false)))))
theorem laws_FnJpStringEnd.mono : ∀ a0 k, LeO (laws_FnJpStringEnd.f k a0) (laws_FnJpStringEnd.f (k + 1) a0) := by
 intro a0 k
 unfold laws_FnJpStringEnd.f
 repeat' first
   | (with_reducible exact laws_jpClose.mono _ _)
   | (with_reducible exact LeO.refl _)
   | (with_reducible exact LeO.none _)
   | (with_reducible refine LeO.ite ?_ ?_)
   | (with_reducible refine LeO.bind ?_ (fun _ => ?_))
   | exact laws_jpClose.mono _ _
   | exact LeO.none _
   | refine LeO.ite ?_ ?_
   | refine LeO.bind ?_ (fun _ => ?_)
set_option maxHeartbeats 8000000 in
set_option maxRecDepth 100000 in
theorem laws_FnJpStringEnd.calls (k : Nat) (a0 : ByteArray) (r : Bool) (w : World) (hG : GLCfg w) (h : laws_FnJpStringEnd.f k a0 = some r) :
  Calls Tryd.prog 4 #[.string a0] w fun e w' => e = .returned (.bool r) ∧ Below w.heap.size w w' := by
 have HGL := Aside0.mk hG
 clear hG
 have HB := Aside0.mk (Below.refl w.heap.size w)
 have H : (if (a0.size : Int) > 2147483647 then (some true) else (if (a0.size : Int) > 65536 then (some true) else ((impl_JpStringEnd.f a0).bind fun bt101 => ((laws_jpClose.f k a0).bind fun bt103 => (if bt101.1 = bt103.1 then (if bt103.1 < 0 then (some true) else (some (bt101.2 == bt103.2))) else (some false)))))) = some r := h
 clear h
 by_cases c2 : (a0.size : Int) > 2147483647
 ·
  rw [if_pos c2] at H
  have c2b0 : decide (2147483647 < (a0.size : Int)) = true := decide_eq_true c2
  have c2b1 : decide (2147483647 < a0.size) = true := decide_eq_true (by omega)
  clear c2
  obtain rfl := Option.some.inj H
  go_enter Tryd.func4, Tryd.ntmps4
  go_wp2
  go_ret
  exact ⟨by first | rfl | (simp [errW_none, errW_some] <;> rfl) | (simp [*, errW_none, errW_some] <;> rfl), by repeat (first | (with_reducible first | exact HB.out | apply below_alloc | apply pw_below_drewN | apply below_drew1) | exact HB.out)⟩
 ·
  rw [if_neg c2] at H
  have c2b0 : decide (2147483647 < (a0.size : Int)) = false := decide_eq_false c2
  have c2b1 : decide (2147483647 < a0.size) = false := decide_eq_false (by omega)
  clear c2
  by_cases c3 : (a0.size : Int) > 65536
  ·
   rw [if_pos c3] at H
   have c3b0 : decide (65536 < (a0.size : Int)) = true := decide_eq_true c3
   have c3b1 : decide (65536 < a0.size) = true := decide_eq_true (by omega)
   clear c3
   obtain rfl := Option.some.inj H
   go_enter Tryd.func4, Tryd.ntmps4
   go_wp2
   go_ret
   exact ⟨by first | rfl | (simp [errW_none, errW_some] <;> rfl) | (simp [*, errW_none, errW_some] <;> rfl), by repeat (first | (with_reducible first | exact HB.out | apply below_alloc | apply pw_below_drewN | apply below_drew1) | exact HB.out)⟩
  ·
   rw [if_neg c3] at H
   have c3b0 : decide (65536 < (a0.size : Int)) = false := decide_eq_false c3
   have c3b1 : decide (65536 < a0.size) = false := decide_eq_false (by omega)
   clear c3
   replace H := Option.bind_eq_some_iff.mp H
   obtain ⟨⟨t101, t102⟩, A40, H⟩ := H
   replace H : ((laws_jpClose.f k a0).bind fun bt103 => (if t101 = bt103.1 then (if bt103.1 < 0 then (some true) else (some (t102 == bt103.2))) else (some false))) = some r := H
   have A4 := Aside0.mk A40
   clear A40
   replace H := Option.bind_eq_some_iff.mp H
   obtain ⟨⟨t103, t104⟩, A50, H⟩ := H
   replace H : (if t101 = t103 then (if t103 < 0 then (some true) else (some (t102 == t104))) else (some false)) = some r := H
   have A5 := Aside0.mk A50
   clear A50
   by_cases c6 : t101 = t103
   ·
    rw [if_pos c6] at H
    have c6b0 : (t101 == t103) = true := beq_iff_eq.mpr c6
    have c6b1 : (t101 != t103) = false := bne_eq_false_iff_eq.mpr c6
    clear c6
    by_cases c7 : t103 < 0
    ·
     rw [if_pos c7] at H
     have c7b0 : decide (t103 < 0) = true := decide_eq_true c7
     clear c7
     obtain rfl := Option.some.inj H
     go_enter Tryd.func4, Tryd.ntmps4
     go_wp2_with (first | ((with_reducible refine gate_callee (f := 9) rfl ?_); refine goesL_ (some 15) rfl rfl Tryd.func9 (by kernel_rfl) rfl #[.string a0] rfl (by (try simp only [List.map_toArray, List.map_cons, List.map_nil]); first | done | rfl | (simp only [List.length_drop, List.length_take]; rfl)) ?_; (with_reducible refine (impl_JpStringEnd.calls a0 t101 t102 _ ?side1 A4.out).mono ?_); (case side1 => exact GLCfg.keep HGL.out (by repeat (first | (with_reducible first | exact HB.out | apply below_alloc | apply pw_below_drewN | apply below_drew1) | exact HB.out))); rintro e w8 ⟨rfl, hb⟩; refine ⟨_, rfl, ?_⟩; have n0_ := Aside0.mk (below_step (by repeat (first | (with_reducible first | exact HB.out | apply below_alloc | apply pw_below_drewN | apply below_drew1) | exact HB.out)) hb); clear HB; have HB := n0_; clear n0_; (try clear hb); (try clear hb2); (try clear hk); (try clear hi)) | ((with_reducible refine gate_callee (f := 10) rfl ?_); refine goesL_ (some 20) rfl rfl Tryd.func10 (by kernel_rfl) rfl #[.string a0] rfl (by (try simp only [List.map_toArray, List.map_cons, List.map_nil]); first | done | rfl | (simp only [List.length_drop, List.length_take]; rfl)) ?_; (with_reducible refine (laws_jpClose.calls k a0 t103 t104 _ A5.out).mono ?_); rintro e w' ⟨rfl, ⟨nd, rfl⟩⟩; refine ⟨_, rfl, ?_⟩))
     go_ret
     exact ⟨by first | rfl | (simp [errW_none, errW_some] <;> rfl) | (simp [*, errW_none, errW_some] <;> rfl), by repeat (first | (with_reducible first | exact HB.out | apply below_alloc | apply pw_below_drewN | apply below_drew1) | exact HB.out)⟩
    ·
     rw [if_neg c7] at H
     have c7b0 : decide (t103 < 0) = false := decide_eq_false c7
     clear c7
     obtain rfl := Option.some.inj H
     go_enter Tryd.func4, Tryd.ntmps4
     go_wp2_with (first | ((with_reducible refine gate_callee (f := 9) rfl ?_); refine goesL_ (some 15) rfl rfl Tryd.func9 (by kernel_rfl) rfl #[.string a0] rfl (by (try simp only [List.map_toArray, List.map_cons, List.map_nil]); first | done | rfl | (simp only [List.length_drop, List.length_take]; rfl)) ?_; (with_reducible refine (impl_JpStringEnd.calls a0 t101 t102 _ ?side1 A4.out).mono ?_); (case side1 => exact GLCfg.keep HGL.out (by repeat (first | (with_reducible first | exact HB.out | apply below_alloc | apply pw_below_drewN | apply below_drew1) | exact HB.out))); rintro e w9 ⟨rfl, hb⟩; refine ⟨_, rfl, ?_⟩; have n0_ := Aside0.mk (below_step (by repeat (first | (with_reducible first | exact HB.out | apply below_alloc | apply pw_below_drewN | apply below_drew1) | exact HB.out)) hb); clear HB; have HB := n0_; clear n0_; (try clear hb); (try clear hb2); (try clear hk); (try clear hi)) | ((with_reducible refine gate_callee (f := 10) rfl ?_); refine goesL_ (some 20) rfl rfl Tryd.func10 (by kernel_rfl) rfl #[.string a0] rfl (by (try simp only [List.map_toArray, List.map_cons, List.map_nil]); first | done | rfl | (simp only [List.length_drop, List.length_take]; rfl)) ?_; (with_reducible refine (laws_jpClose.calls k a0 t103 t104 _ A5.out).mono ?_); rintro e w' ⟨rfl, ⟨nd, rfl⟩⟩; refine ⟨_, rfl, ?_⟩))
     go_ret
     exact ⟨by first | rfl | (simp [errW_none, errW_some] <;> rfl) | (simp [*, errW_none, errW_some] <;> rfl), by repeat (first | (with_reducible first | exact HB.out | apply below_alloc | apply pw_below_drewN | apply below_drew1) | exact HB.out)⟩
   ·
    rw [if_neg c6] at H
    have c6b0 : (t101 == t103) = false := beq_eq_false_iff_ne.mpr c6
    have c6b1 : (t101 != t103) = true := bne_iff_ne.mpr c6
    obtain rfl := Option.some.inj H
    go_enter Tryd.func4, Tryd.ntmps4
    go_wp2_with (first | ((with_reducible refine gate_callee (f := 9) rfl ?_); refine goesL_ (some 15) rfl rfl Tryd.func9 (by kernel_rfl) rfl #[.string a0] rfl (by (try simp only [List.map_toArray, List.map_cons, List.map_nil]); first | done | rfl | (simp only [List.length_drop, List.length_take]; rfl)) ?_; (with_reducible refine (impl_JpStringEnd.calls a0 t101 t102 _ ?side1 A4.out).mono ?_); (case side1 => exact GLCfg.keep HGL.out (by repeat (first | (with_reducible first | exact HB.out | apply below_alloc | apply pw_below_drewN | apply below_drew1) | exact HB.out))); rintro e w10 ⟨rfl, hb⟩; refine ⟨_, rfl, ?_⟩; have n0_ := Aside0.mk (below_step (by repeat (first | (with_reducible first | exact HB.out | apply below_alloc | apply pw_below_drewN | apply below_drew1) | exact HB.out)) hb); clear HB; have HB := n0_; clear n0_; (try clear hb); (try clear hb2); (try clear hk); (try clear hi)) | ((with_reducible refine gate_callee (f := 10) rfl ?_); refine goesL_ (some 20) rfl rfl Tryd.func10 (by kernel_rfl) rfl #[.string a0] rfl (by (try simp only [List.map_toArray, List.map_cons, List.map_nil]); first | done | rfl | (simp only [List.length_drop, List.length_take]; rfl)) ?_; (with_reducible refine (laws_jpClose.calls k a0 t103 t104 _ A5.out).mono ?_); rintro e w' ⟨rfl, ⟨nd, rfl⟩⟩; refine ⟨_, rfl, ?_⟩))
    go_ret
    exact ⟨by first | rfl | (simp [errW_none, errW_some] <;> rfl) | (simp [*, errW_none, errW_some] <;> rfl), by repeat (first | (with_reducible first | exact HB.out | apply below_alloc | apply pw_below_drewN | apply below_drew1) | exact HB.out)⟩

/-- THE ONE PURE STATEMENT of laws_FnJpStringEnd: yours. -/
def laws_FnJpStringEnd.Pure : Prop := ∀ (a0 : ByteArray), a0.size ≤ 140737488351232 → ∃ k, laws_FnJpStringEnd.f k a0 = some true
theorem laws_FnJpStringEnd.walk (P : laws_FnJpStringEnd.Pure) (a0 : ByteArray) (w : World) (hG : GLCfg w) (w0 : a0.size ≤ 140737488351232) :
  Calls Tryd.prog 4 #[.string a0] w fun e w' => e = .returned (.bool true) ∧ Below w.heap.size w w' := by
 obtain ⟨k, h⟩ := P a0 w0
 refine (laws_FnJpStringEnd.calls k a0 true w hG h).mono ?_
 rintro e w' ⟨rfl, hd⟩
 exact ⟨rfl, hd⟩

end Go.Proofs.YtifcmhekpbfboaaDoor.MFnJpStringEnd
