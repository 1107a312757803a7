/- The walk of jsonparser's unescapeConfig and Unescape. Conditions: the row takes at most 2^47 - 4096 bytes; the package's escape table, configuration and error hold what their initialisers lay. -/
import Derived.Test.YtnidncohhinjbaaDoorJq6
namespace Go.Proofs.YtnidncohhinjbaaDoor
open Go.RowKit

def UPost (o : Option (List UInt8)) (W : World) : Ending → World → Prop := fun e w' => Below W.heap.size W w' ∧
  match o with
  | some y => ∃ v', e = .returned (.tuple #[v', .nilIface]) ∧ Brow w' W.heap.size v' y
  | none => ∃ t p, e = .returned (.tuple #[.slice none 0 0, .iface t p])

theorem unL_fit : ∀ (k : Nat) (l acc y : List UInt8), unL k l acc = some y → y.length ≤ acc.length + l.length
  | 0, _, _, _, h => by simp [unL] at h
  | k + 1, l, acc, y, h => by
    unfold unL at h
    cases he : escF l with
    | none => rw [he] at h; cases h
    | some z =>
      obtain ⟨n, ys⟩ := z
      rw [he] at h
      simp only at h
      have hf := escF_fit he
      split at h
      · obtain rfl := Option.some.inj h
        simp only [List.length_append, List.length_drop]
        omega
      · have := unL_fit k _ _ _ h
        simp only [List.length_append, List.length_drop, List.length_take] at this
        omega

theorem brow_of_buf {w0 W wr : World} {N : Nat} {acc : List UInt8} (hb : Lib.Buf w0 wr w0.heap.size N acc) (h0 : W.heap.size ≤ w0.heap.size) (hN : 0 < N ∧ N ≤ 140737488351232) : Brow wr W.heap.size (.slice (some ⟨w0.heap.size, 0, none⟩) acc.length N) acc := by
  obtain ⟨v, hv⟩ := Option.isSome_iff_exists.1 (hb.there 0 hN.1)
  exact ⟨w0.heap.size, N, rfl, h0, World.block_lt_of_cell? wr _ hv, hb.fits, by simp only [maxLen]; omega, fun j b hj => hb.holds j b hj, fun j hj => ⟨hb.there j hj, hb.free j hj⟩⟩

theorem out_to (B N d a : Nat) (h : a + d = N) (_hN : N ≤ 140737488351232) : ∀ W, (Instr.slice 83 (.slice (some ⟨B, 0, none⟩) N N) none (some (.int .i64 ((N : Int) - (d : Int)))) none).run Tryd.prog W = .ok (.slice (some ⟨B, 0, none⟩) a N) W := fun W => by
  have ht' : Tryd.prog.underlying 83 = some (.slice (Tryd.prog.elem 83)) := by simp [Program.elem, Tryd.underlying83]
  have he : Tryd.prog.elem 83 = 5 := by simp [Program.elem, Tryd.underlying83]
  have e : (N : Int) - (d : Int) = (a : Int) := by omega
  rw [e, run_slice_h W 83 _ _ _ ht' .i64 _ (by omega) (by omega), he, Tryd.sizeOf5]
  simp only [Result.andThen, sliced, Int.toNat_natCast]
  simp [Addr.add]

set_option maxHeartbeats 8000000 in
set_option maxRecDepth 100000 in
theorem unescConfig_any (W : World) (p : Addr) (m cap : Nat) (x : List UInt8) (hG : GLEsc W) (hr : Row W p m cap x) (hm : m ≤ 140737488351232 ∧ cap ≤ 9223372036854775807) (hbs : Lib.indexByte x 92 ≠ -1) :
    Calls Tryd.prog 81 #[cfgV, .slice (some p) m cap, .slice none 0 0] W (UPost (unF x) W) := by
  obtain ⟨o, ho⟩ : ∃ o, o = unF x := ⟨_, rfl⟩
  rw [← ho]
  unfold unF at ho
  rcases ix_at x with hix | ⟨i0, r0, hix, hi0, hr0⟩
  · exact absurd hix hbs
  rw [hix, Int.toNat_natCast] at ho
  have HO := Lib.hid ho.symm
  have HG := Lib.hid hG
  have HR := Lib.hid hr
  have HIX := Lib.hid hix
  have HR0 := Lib.hid hr0
  have hxm := hr.1
  have hi0m : i0 < m := by omega
  clear ho hG hr hbs hix hr0 hi0
  unfold cfgV
  go_enter Tryd.func81, Tryd.ntmps81
  go_upto_region 1 with fail
  obtain ⟨W1, hW1⟩ : ∃ W1, W1 = W.alloc (Obj.cells #[Value.bool false, Value.bool false, Value.int IntKind.i64 0] 120) := ⟨_, rfl⟩
  rw [← hW1]
  have hB : Below W.heap.size W W1 := by rw [hW1]; exact (Below.refl _ _).alloc (Nat.le_refl _) _
  have e0 : W1.cell? ⟨W.heap.size, 0, none⟩ = some (.bool false) := by rw [hW1, cell_of_row _ _ 0 _ 120 (0, 0) (heap_alloc_new W _)]; rfl
  have e1 : W1.cell? ⟨W.heap.size, 1, none⟩ = some (.bool false) := by rw [hW1, cell_of_row _ _ 1 _ 120 (0, 0) (heap_alloc_new W _)]; rfl
  have e2 : W1.cell? ⟨W.heap.size, 2, none⟩ = some (.int .i64 0) := by rw [hW1, cell_of_row _ _ 2 _ 120 (0, 0) (heap_alloc_new W _)]; rfl
  have HE : Hid (∀ wr, Below W1.heap.size W1 wr → wr.cell? ⟨W.heap.size, 0, none⟩ = some (.bool false) ∧ wr.cell? ⟨W.heap.size, 1, none⟩ = some (.bool false) ∧ wr.cell? ⟨W.heap.size, 2, none⟩ = some (.int .i64 0)) :=
    Lib.hid fun wr hb => ⟨(hb.cell (World.block_lt_of_cell? W1 _ e0)).trans e0, (hb.cell (World.block_lt_of_cell? W1 _ e1)).trans e1, (hb.cell (World.block_lt_of_cell? W1 _ e2)).trans e2⟩
  have HG1 : Hid (GLEsc W1) := Lib.hid (HG.out.keep hB)
  have HR1 : Hid (Row W1 p m cap x) := Lib.hid (Row_cells HR.out hB)
  have HB := Lib.hid hB
  clear hB hW1 HR HG e0 e1 e2
  have hmk := Go.Proofs.YtnidncohhinjbaaDoorW.PrintWords.print_make (P := Tryd.prog) 83 5 .u8 1 Tryd.underlying83 (by kernel_rfl) (by decide) m (by omega)
  have CI : Hid (Calls Tryd.prog 98 #[.slice (some p) m cap, .int .u8 92] W1 fun e w' => e = .returned (.int .i64 (i0 : Int)) ∧ w' = W1) := Lib.hid (by
    have h := ix_row HR1.out
    rw [HIX.out] at h
    exact h)
  have q1 : ((i0 : Int) == -1) = false := by rw [beq_eq_false_iff_ne]; omega
  have q2 : decide ((0 : Int) < (m : Int)) = true := decide_eq_true (by omega)
  have q3 : 0 < m := by omega
  go_upto_region 7 with (first | (go_at_call 98; refine CI.out.mono ?_; rintro e w' ⟨rfl, hw⟩; have hw := hw.symm; subst hw) | fail)
  obtain ⟨w2, hw2⟩ : ∃ w2, w2 = W1.alloc (Obj.cells (madeCells #[Value.int IntKind.u8 0] m) 5) := ⟨_, rfl⟩
  have hb0 : Lib.Buf W1 w2 W1.heap.size m [] := by
    rw [hw2]
    exact Lib.Buf.start W1 _ 5 m 0 (by rw [size_madeCells]; exact Nat.le_refl _)
  have ht0 : Tail W1.heap.size m ⟨W1.heap.size, 0, none⟩ m ([] : List UInt8).length := ⟨by simp, fun _ => rfl⟩
  obtain ⟨p1, s1, r1⟩ := row_to HR1.out i0 (by omega)
  obtain ⟨p2, m2, cap2, s2, hm2, r2⟩ := row_from HR1.out i0 (by omega)
  obtain ⟨q3, d3, s3, hd3, t3⟩ := tail_from ht0 i0 (by omega)
  obtain ⟨w3, hcp, hb3⟩ := copy_tail hb0 ht0 r1 (by omega) 3
  rw [List.nil_append] at hb3
  rw [List.length_nil, Nat.zero_add] at t3
  have hl1 : (x.take i0).length = i0 := by rw [List.length_take]; omega
  have HR2 : Hid (Row W1 p2 m2 cap2 (x.drop i0)) := r2
  have HT3 : Hid (Tail W1.heap.size m q3 d3 (x.take i0).length) := by rw [hl1]; exact t3
  have HB3 : Hid (Lib.Buf W1 w3 W1.heap.size m (x.take i0)) := hb3
  have hcap2 := r2.2.2.1
  rw [← hw2]
  have hxl : x.length + 1 = m + 1 := by omega
  rw [hxl] at HO
  clear hb0 ht0 r1 r2 t3 hb3 hw2 HR1 CI hmk hl1 HIX hxl q1 q2
  have hms : m ≤ 140737488351232 ∧ cap2 ≤ 9223372036854775807 := by omega
  have hm1 : m ≤ 140737488351232 := hm.1
  have HX : Hid (∃ r, x.drop i0 = 92 :: r) := Lib.hid ⟨r0, HR0.out⟩
  clear HR0 hcap2
  go_wp2_with (first | (at_builtin; refine Lib.wpList_copy_run _ rfl _ _ 83 83 rfl _ _ rfl rfl hcp ?_) | fail)
  go_loopg [1, 9] (m + 1) (fun g v1 v9 wc => ∃ (p : Addr) (m1 cap : Nat) (l : List UInt8) (q : Addr) (d : Nat) (acc : List UInt8), v1 = .slice (some p) m1 cap ∧ v9 = .slice (some q) d d ∧ Hid (Row W1 p m1 cap l) ∧ Hid (Tail W1.heap.size m q d acc.length) ∧ Hid (Lib.Buf W1 wc W1.heap.size m acc) ∧ (m1 ≤ d ∧ cap ≤ 9223372036854775807 ∧ m1 < g) ∧ Hid (∃ r, l = 92 :: r) ∧ Hid (unL g l acc = o))
  case atStart => exact ⟨p2, m2, cap2, _, q3, d3, _, rfl, rfl, HR2, HT3, HB3, by omega, HX, HO⟩
  case round =>
    clear s1 s2 s3 hcp HR2 HT3 HB3 HX HO hm2 hd3 hi0m hxm hms hm
    obtain ⟨p, m1, cap, l, q, d, acc, rfl, rfl, HR, HT, HBf, hmd, HX, HO⟩ := hrel
    cases gk with
    | zero => omega
    | succ j =>
    have hf := HO.out
    unfold unL at hf
    have CE := esc_buf HG1.out HBf.out HT.out HR.out hmd.1 ⟨hm1, hmd.2.1⟩ HX.out
    unfold cfgV at CE
    have hbw : Below W1.heap.size W1 wr := HBf.out.below
    obtain ⟨e0, e1, e2⟩ := HE.out wr hbw
    have HBW := Lib.hid hbw
    clear hbw HO
    cases he : escF l with
    | none =>
      rw [he] at hf CE
      simp only at hf CE
      subst hf
      have CE := Lib.hid CE
      obtain ⟨te, pe, hee⟩ := HG1.out.er
      have HEE := Lib.hid hee
      clear HR HT HBf he hee
      go_wp2_with (first | (go_at_call 99; refine CE.out.mono ?_; rintro e w' ⟨rfl, hb4⟩; have HB4 := Lib.hid (HB.out.trans ((HBW.out.trans (hb4.mono HBW.out.size)).mono HB.out.size)); have hee := ((HBW.out.trans (hb4.mono HBW.out.size)).cell (World.block_lt_of_cell? W1 _ HEE.out)).trans HEE.out; clear hb4) | fail)
      go_quiet (fail)
      go_wp2
      go_ret2
      exact ⟨jq_drewN HB4.out _, _, _, rfl⟩
    | some z =>
      obtain ⟨n, ys⟩ := z
      rw [he] at hf CE
      simp only at hf CE
      have hfit := escF_fit he
      have hlm := HR.out.1
      obtain ⟨p3, m3, cap3, s3, hm3, r3⟩ := row_from HR.out n (by omega)
      obtain ⟨q4, d4, s4, hd4, t4⟩ := tail_from HT.out ys.length (by omega)
      have hn1 : ((n : Int) == -1) = false := by rw [beq_eq_false_iff_ne]; omega
      have CE := Lib.hid CE
      rw [← List.length_append] at t4
      rcases ix_at (l.drop n) with hz | ⟨i1, r1, hz, hi1, hr1⟩
      · rw [if_pos hz] at hf
        have CI : Hid (∀ W2, Below W1.heap.size W1 W2 → Calls Tryd.prog 98 #[.slice (some p3) m3 cap3, .int .u8 92] W2 fun e w' => e = .returned (.int .i64 (-1)) ∧ w' = W2) := Lib.hid fun W2 hb => by
          have h := ix_row (Row_cells r3 hb)
          rw [hz] at h
          exact h
        obtain ⟨q5, d5, s5, hd5, t5⟩ := tail_from t4 m3 (by omega)
        have HCP : Hid (∀ wr, Lib.Buf W1 wr W1.heap.size m (acc ++ ys) → ∃ wr', (Builtin.copy_ #[83, 83] 3 #[.slice (some q4) d4 d4, .slice (some p3) m3 cap3]).run Tryd.prog wr = .ok (.int .i64 (m3 : Int)) wr' ∧ Lib.Buf W1 wr' W1.heap.size m (acc ++ ys ++ l.drop n)) := Lib.hid fun wr hb => copy_tail hb t4 r3 (by omega) 3
        have hao : (acc ++ ys ++ l.drop n).length + d5 = m := by
          have := t5.1
          rw [List.length_append, r3.1]
          omega
        obtain ⟨y, hy⟩ : ∃ y, y = acc ++ ys ++ l.drop n := ⟨_, rfl⟩
        rw [← hy] at hf hao HCP
        subst hf
        have s6 := out_to W1.heap.size m d5 y.length hao (by omega)
        have HY := Lib.hid hy
        clear HR HT HBf he hlm hfit r3 t4 t5 hz hy
        go_wp2_with (first | (go_at_call 99; refine CE.out.mono ?_; rintro e w4 ⟨rfl, hb4⟩; have HB4 := Lib.hid hb4; obtain ⟨w6, hr6, hb6⟩ := HCP.out _ hb4; have HB6 := Lib.hid hb6; clear hb4 hb6) | (go_at_call 98; refine (CI.out _ HB4.out.below).mono ?_; rintro e w5 ⟨rfl, hw5⟩; have hw5 := hw5.symm; subst hw5) | fail)
        go_ret2
        exact ⟨HB.out.trans (HB6.out.below.mono HB.out.size), _, rfl, brow_of_buf HB6.out HB.out.size ⟨by omega, hm1⟩⟩
      · rw [hz, if_neg (by omega), Int.toNat_natCast] at hf
        have CI : Hid (∀ W2, Below W1.heap.size W1 W2 → Calls Tryd.prog 98 #[.slice (some p3) m3 cap3, .int .u8 92] W2 fun e w' => e = .returned (.int .i64 (i1 : Int)) ∧ w' = W2) := Lib.hid fun W2 hb => by
          have h := ix_row (Row_cells r3 hb)
          rw [hz] at h
          exact h
        have hi3 : i1 < m3 := by rw [r3.1] at hi1; exact hi1
        obtain ⟨p5, s5, r5⟩ := row_to r3 i1 (by omega)
        obtain ⟨q5, d5, s6, hd5, t5⟩ := tail_from t4 i1 (by omega)
        obtain ⟨p6, m6, cap6, s7, hm6, r6⟩ := row_from r3 i1 (by omega)
        have HCP : Hid (∀ wr, Lib.Buf W1 wr W1.heap.size m (acc ++ ys) → ∃ wr', (Builtin.copy_ #[83, 83] 3 #[.slice (some q4) d4 d4, .slice (some p5) i1 cap3]).run Tryd.prog wr = .ok (.int .i64 (i1 : Int)) wr' ∧ Lib.Buf W1 wr' W1.heap.size m (acc ++ ys ++ (l.drop n).take i1)) := Lib.hid fun wr hb => copy_tail hb t4 r5 (by omega) 3
        have hi4 : ((i1 : Int) == -1) = false := by rw [beq_eq_false_iff_ne]; omega
        have hl6 : (acc ++ ys).length + i1 = (acc ++ ys ++ (l.drop n).take i1).length := by
          have h1 : ∀ a b : List UInt8, (a ++ b).length = a.length + b.length := fun _ _ => List.length_append
          rw [h1 (acc ++ ys), r5.1]
        rw [hl6] at t5
        have HT6 := Lib.hid t5
        have HR6 := Lib.hid r6
        have HX6 : Hid (∃ r, (l.drop n).drop i1 = 92 :: r) := Lib.hid ⟨r1, hr1⟩
        have HF := Lib.hid hf
        have hjj : m6 ≤ d5 ∧ cap6 ≤ 9223372036854775807 ∧ m6 < j := by omega
        clear HR HT HBf he hlm hfit r3 t4 t5 r5 r6 hz hf hr1 hi1 hl6 HX
        go_wp2_with (first | (go_at_call 99; refine CE.out.mono ?_; rintro e w4 ⟨rfl, hb4⟩; have HB4 := Lib.hid hb4; obtain ⟨w6, hr6, hb6⟩ := HCP.out _ hb4; have HB6 := Lib.hid hb6; clear hb4 hb6) | (go_at_call 98; refine (CI.out _ HB4.out.below).mono ?_; rintro e w5 ⟨rfl, hw5⟩; have hw5 := hw5.symm; subst hw5) | fail)
        go_roundg j
        case rel => exact ⟨p6, m6, cap6, _, q5, d5, _, rfl, rfl, HR6, HT6, HB6, hjj, HX6, HF⟩
        case measure => omega

set_option maxHeartbeats 4000000 in
set_option maxRecDepth 100000 in
theorem unesc_any (W : World) (p : Addr) (m cap : Nat) (x : List UInt8) (hG : GLEsc W) (hr : Row W p m cap x) (hm : m ≤ 140737488351232 ∧ cap ≤ 9223372036854775807) (hbs : Lib.indexByte x 92 ≠ -1) :
    Calls Tryd.prog 63 #[.slice (some p) m cap, .slice none 0 0] W (UPost (unF x) W) := by
  have hc := unescConfig_any W p m cap x hG hr hm hbs
  have e0 := hG.c0
  have e1 := hG.c1
  have e2 := hG.c2
  obtain ⟨o, ho⟩ : ∃ o, o = unF x := ⟨_, rfl⟩
  rw [← ho] at hc ⊢
  unfold cfgV UPost at hc
  unfold UPost
  have HC := Lib.hid hc
  clear hc hG hr ho hbs hm
  cases o with
  | none =>
    go_enter Tryd.func63, Tryd.ntmps63
    go_wp2_with (first | (go_at_call 81; refine HC.out.mono ?_; rintro e w' ⟨hb, t, q, rfl⟩; have HB := Lib.hid hb; clear hb) | fail)
    go_ret2
    exact ⟨HB.out, _, _, rfl⟩
  | some y =>
    go_enter Tryd.func63, Tryd.ntmps63
    go_wp2_with (first | (go_at_call 81; refine HC.out.mono ?_; rintro e w' ⟨hb, v', rfl, hv⟩; have HB := Lib.hid hb; have HV := Lib.hid hv; clear hb hv) | fail)
    go_ret2
    exact ⟨HB.out, _, rfl, HV.out⟩

def unU (x : ByteArray) : Option ByteArray := (unF x.data.toList).map fun y => ⟨y.toArray⟩

theorem ix_bs : ∀ l : List UInt8, l.contains 92 = true → Lib.indexByte l 92 ≠ -1 := by
  intro l h e
  have h1 := ix_has l
  rw [e, h] at h1
  simp at h1

theorem u_calls : UCalls GLEsc unU := by
  intro x v base W hx hbs hv hG
  obtain ⟨g, cap, rfl, hb, hl, hle, hmx, hc, hf⟩ := hv
  have hl : x.data.toList.length = x.size := by rw [Array.length_toList]; rfl
  have hr : Row W ⟨g, 0, none⟩ x.data.toList.length cap x.data.toList := ⟨rfl, hle, (by simp only [maxLen] at hmx; omega), fun i b hi => by
    have hadd : (⟨g, 0, none⟩ : Addr).add i = ⟨g, i, none⟩ := by unfold Addr.add; split <;> simp_all
    rw [hadd]
    exact hc i b hi⟩
  refine (unesc_any W ⟨g, 0, none⟩ _ cap x.data.toList hG hr ⟨by omega, (by simp only [maxLen] at hmx; omega)⟩ (ix_bs _ hbs)).mono ?_
  rintro e w' ⟨hB, h⟩
  refine ⟨hB, ?_⟩
  unfold unU
  cases hu : unF x.data.toList with
  | none =>
    rw [hu] at h
    obtain ⟨t, q, rfl⟩ := h
    exact ⟨_, _, rfl, t, q, rfl⟩
  | some y =>
    rw [hu] at h
    obtain ⟨v', rfl, hv⟩ := h
    exact ⟨_, _, rfl, rfl, hv.string (P := Tryd.prog) 83 9 5 Tryd.underlying83 Tryd.underlying5 Tryd.underlying9⟩
end Go.Proofs.YtnidncohhinjbaaDoor
