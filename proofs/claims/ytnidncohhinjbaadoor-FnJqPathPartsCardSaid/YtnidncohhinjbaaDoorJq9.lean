/- The walk of jsonparser's ParsePath: its answer as a function of the text. Conditions: the text takes at most 1000 bytes; the package's variables hold what their initialisers lay. -/
import Derived.Test.YtnidncohhinjbaaDoorJq8
namespace Go.Proofs.YtnidncohhinjbaaDoor
open Go.RowKit Go.Proofs.YtnidncohhinjbaaDoorW.PrintWords

set_option maxHeartbeats 1000000 in
set_option maxRecDepth 100000 in
theorem path_any (p : ByteArray) (w : World) (hs : p.size ≤ 1000) (hG : GLAll w) :
    Calls Tryd.prog 25 #[.string p] w (PathPost (pathF unU p) w) := by
  obtain ⟨⟨te, pe, he⟩, ⟨tm, pm, hm⟩, tu, pu, hu⟩ := hG.1
  obtain ⟨o, ho⟩ : ∃ o, o = pathF unU p := ⟨_, rfl⟩
  rw [← ho]
  have HG := Lib.hid hG
  have HO := Lib.hid ho
  clear ho hG
  by_cases h0 : p.size = 0
  · have hp0 : p = ⟨#[]⟩ := by
      apply ByteArray.ext
      exact Array.eq_empty_of_size_eq_zero h0
    have ho : o = none := by
      have h := HO.out
      unfold pathF at h
      rw [dif_neg (by omega)] at h
      exact h
    subst ho
    subst hp0
    clear HO h0
    go_enter Tryd.func25, Tryd.ntmps25
    go_wp2
    go_quiet (fail)
    go_wp2
    go_ret2
    exact ⟨jq_drewN (Below.refl _ _) _, _, _, rfl⟩
  · have hlt : 0 < p.size := by omega
    have hemp : p.toList.isEmpty = false := by
      rw [← decide_eq_emptyBytes]
      exact decide_eq_false (fun h => by rw [h] at hlt; exact absurd hlt (by decide))
    go_enter Tryd.func25, Tryd.ntmps25
    go_upto_block 0 with fail
    go_cut [0] (fun v0 wc => ∃ q : ByteArray, v0 = .string q ∧ w = wc ∧ q.size ≤ 1000 ∧ Hid (pathBody unU q = o))
    case first =>
      go_wp2
      · have ho := HO.out.trans (way1 unU (by assumption))
        subst ho
        go_ret2
        exact ⟨(Below.refl _ _).alloc (Nat.le_refl _) _, _, rfl, Kd.R_of_own (World.ownsRow_lit (base := w.heap.size) (e := 9) (size := 1) w #[] 0 (Nat.le_refl _) (by simp [maxLen]) (by simp)) (fun _ _ => trivial)⟩
      · go_meet
        case rel => exact ⟨_, rfl, rfl, by simp only [ByteArray.size_extract]; omega, Lib.hid (HO.out.trans (way2 unU (by assumption) (by assumption))).symm⟩
      · go_meet
        case rel => exact ⟨_, rfl, rfl, by simp only [ByteArray.size_extract]; omega, Lib.hid (HO.out.trans (way3 unU (by assumption) (by assumption) (by assumption))).symm⟩
      · have ho := HO.out.trans (way4 unU (by assumption) (by assumption) (by assumption) (by assumption))
        subst ho
        go_quiet (fail)
        go_wp2
        go_ret2
        exact ⟨jq_drewN (Below.refl _ _) _, _, _, rfl⟩
      · go_meet
        case rel => exact ⟨_, rfl, rfl, hs, Lib.hid (HO.out.trans (way5 unU hlt (by assumption))).symm⟩
      · exact (way6 hlt (by assumption) (by assumption) (by assumption)).elim
      · go_meet
        case rel => exact ⟨_, rfl, rfl, hs, Lib.hid (HO.out.trans (way5 unU hlt (by assumption))).symm⟩
    case rest =>
      obtain ⟨q, rfl, rfl, hq, HQ⟩ := hcut
      clear HO hemp hlt h0 hs
      by_cases h0 : q.size = 0
      · have hq0 : q = ⟨#[]⟩ := by
          apply ByteArray.ext
          exact Array.eq_empty_of_size_eq_zero h0
        have ho : none = o := by
          have h := HQ.out
          unfold pathBody at h
          rw [if_pos h0] at h
          exact h
        subst ho
        subst hq0
        clear HQ h0
        go_wp2
        go_quiet (fail)
        go_wp2
        go_ret2
        exact ⟨jq_drewN (Below.refl _ _) _, _, _, rfl⟩
      · have hlt : 0 < q.size := by omega
        have hemp : q.toList.isEmpty = false := by
          rw [← decide_eq_emptyBytes]
          exact decide_eq_false (fun h => by rw [h] at hlt; exact absurd hlt (by decide))
        have h := HQ.out
        unfold pathBody at h
        rw [if_neg h0] at h
        have HP := Lib.hid h
        clear h HQ h0
        have HZ := Lib.hid fun c w => zzCount_any q c w ⟨by omega, trivial⟩
        obtain ⟨it, hit, hz0, hz1, hz2⟩ := info_parts jq_infoS
        go_wp2_with (first | (go_at_call 43; with_reducible refine (HZ.out 46 _).mono ?_; rintro e w1 ⟨n1, hn1, rfl, hb1⟩) | (go_at_call 43; with_reducible refine (HZ.out 91 _).mono ?_; rintro e w2 ⟨n2, hn2, rfl, hb2⟩) | (at_make; refine wpList_make_own _ rfl _ _ 22 rfl w.heap.size 9 it (.string ⟨#[]⟩) 1 Tryd.underlying22 hit hz0 hz1 .i64 .i64 _ (1 + n1 + n2) rfl rfl (by omega) (by rw [hz2]; omega) (by simp only [maxLen]; omega) (Nat.le_trans hb1.size hb2.size) ?_; intro w3 hr3 hg3) | fail)
        have hb3 : Below w.heap.size w w3 := (hb1.trans (hb2.mono hb1.size)).grown hg3 (Nat.le_trans hb1.size hb2.size) (by intro k hk; cases hk)
        have HB3 := Lib.hid hb3
        have HR3 : Hid (Kd.string.R 9 w3 w.heap.size (fun _ => True) (.slice (some ⟨w2.heap.size, 0, none⟩) 0 (1 + n1 + n2)) []) := Lib.hid (Kd.R_of_own hr3 (fun _ _ => trivial))
        clear hr3 hg3 hb1 hb2 hb3 HZ hn1 hn2
        go_loopg [4, 5] (q.size + 1) (fun g v4 v5 wc => ∃ (i : Nat) (acc : List ByteArray), v5 = .int .i64 (i : Int) ∧ Hid (Kd.string.R 9 wc w.heap.size (fun _ => True) v4 acc) ∧ (acc.length ≤ i ∧ i ≤ q.size ∧ q.size < i + g) ∧ Hid (pathL unU g q i acc = o) ∧ Hid (Below w.heap.size w wc))
        case atStart => exact ⟨0, [], by go_num, HR3, ⟨Nat.le_refl _, by omega, by omega⟩, HP, HB3⟩
        case round =>
          clear HP HR3 HB3
          obtain ⟨i, acc, rfl, HR, hN, HP, HB⟩ := hrel
          cases gk with
          | zero => omega
          | succ j =>
          have hf := HP.out
          clear HP
          obtain ⟨A, cap, rfl⟩ := Kd.R_slice HR.out
          have hmc : Hid (wr.cell? ⟨1, 0, none⟩ = some (.iface tm pm)) := Lib.hid ((HB.out.cell (World.block_lt_of_cell? w _ hm)).trans hm)
          by_cases hlt2 : i < q.size
          · rw [pathL_step _ _ _ _ _ hlt2] at hf
            have hI : i < q.size ∧ True := ⟨hlt2, trivial⟩
            have HF := Lib.hid hf
            clear hf hlt2
            go_upto_block 3 with fail
            go_cut [4, 5] (fun v4 v5 wc => ∃ (i1 : Nat) (acc1 : List ByteArray), v5 = .int .i64 (i1 : Int) ∧ Hid (Kd.string.R 9 wc w.heap.size (fun _ => True) v4 acc1) ∧ (i ≤ i1 ∧ acc1.length ≤ i1 ∧ i1 ≤ q.size) ∧ Hid (restP unU j q (brsL (q.size + 1) q i1 acc1) = o) ∧ Hid (Below w.heap.size w wc))
            case first =>
              have hf := HF.out
              unfold firstP at hf
              rw [dif_pos hI.1] at hf
              clear HF
              by_cases h46 : q[i]'hI.1 = 46
              · rw [if_pos h46] at hf
                simp only at hf
                have b46 : (((q[i]'hI.1).toNat : Int) == 46) = true := by rw [h46]; rfl
                have hmc := hmc.out
                subst hf
                clear h46
                go_wp2
                go_quiet (fail)
                go_wp2
                go_ret2
                exact ⟨jq_drewN HB.out _, _, _, rfl⟩
              · rw [if_neg h46] at hf
                have b46 : (((q[i]'hI.1).toNat : Int) == 46) = false := jq_not (n := 46) (by decide) h46
                clear h46
                by_cases h34 : q[i]'hI.1 = 34
                · rw [if_pos h34] at hf
                  have b34 : (((q[i]'hI.1).toNat : Int) == 34) = true := by rw [h34]; rfl
                  clear h34
                  have HC := Lib.hid (quotedKey_any GLEsc (fun _ _ h hb => h.keep hb) unU ix_calls u_calls q i wr ⟨by omega, hI.1⟩ (HG.out.keep HB.out).1 (HG.out.keep HB.out).2)
                  have hbw := HB.out
                  cases hk : qkF unU q i with
                  | none =>
                    rw [hk] at hf HC
                    simp only at hf
                    subst hf
                    unfold KPost at HC
                    clear hk
                    go_wp2_with (first | (go_at_call 44; refine HC.out.mono ?_; rintro e w1 ⟨hb1, t, x, rfl⟩; have HB1 := Lib.hid (hbw.trans (hb1.mono hbw.size)); clear hb1) | fail)
                    go_ret2
                    exact ⟨HB1.out, _, _, rfl⟩
                  | some z =>
                    obtain ⟨y, n⟩ := z
                    rw [hk] at hf HC
                    simp only at hf
                    have hlt := qkF_lt hk
                    have HF := Lib.hid hf
                    unfold KPost at HC
                    clear hk hf
                    go_wp2_with (first | (go_at_call 44; refine HC.out.mono ?_; rintro e w2 ⟨hb2, rfl⟩; have HR2 := Lib.hid (Kd.R_below HR.out hb2); have HB2 := Lib.hid (hbw.trans (hb2.mono hbw.size)); clear hb2) | (at_builtin; refine Kd.R_append Kd.string (w0 := w) w.heap.size rfl (.tmp 108) (.tmp 110) 22 9 (.string ⟨#[]⟩) 16 rfl Tryd.underlying22 jq_infoS rfl (by decide) (by decide) _ acc y [.string y] (fun _ => True) (fun _ => False) rfl rfl rfl (fun _ hk => hk.elim) (fun _ _ => trivial) HR2.out HB2.out HB2.out.size (by omega) ?_; intro v1 w1 hr1 hb1 hg1 hat1; have HR1 := Lib.hid hr1; have HB1 := Lib.hid hb1; clear hr1 hb1 hg1 hat1) | fail)
                    go_meet
                    case rel => exact ⟨n, acc ++ [y], rfl, HR1, ⟨by omega, by rw [List.length_append, List.length_singleton]; omega, by omega⟩, HF, HB1⟩
                · rw [if_neg h34] at hf
                  have b34 : (((q[i]'hI.1).toNat : Int) == 34) = false := jq_not (n := 34) (by decide) h34
                  clear h34
                  by_cases h91 : q[i]'hI.1 = 91
                  · rw [if_pos h91] at hf
                    simp only at hf
                    have b91 : (((q[i]'hI.1).toNat : Int) == 91) = true := by rw [h91]; rfl
                    have HF := Lib.hid hf
                    clear h91 hf
                    go_wp2
                    go_meet
                    case rel => exact ⟨i, acc, rfl, HR, ⟨Nat.le_refl _, by omega, by omega⟩, HF, HB⟩
                  · rw [if_neg h91] at hf
                    have b91 : (((q[i]'hI.1).toNat : Int) == 91) = false := jq_not (n := 91) (by decide) h91
                    clear h91
                    obtain ⟨ke, hke⟩ : ∃ ke, ke = keyEnd (q.size + 1) q i := ⟨_, rfl⟩
                    rw [← hke] at hf
                    have HF := Lib.hid hf
                    have HKE := Lib.hid hke.symm
                    clear hf hke
                    go_wp2
                    go_loopg [5] (q.size + 1) (fun g v5 wc => ∃ e : Nat, v5 = .int .i64 (e : Int) ∧ (i ≤ e ∧ e ≤ q.size ∧ q.size < e + g) ∧ Hid (keyEnd g q e = ke) ∧ wr = wc)
                    case atStart => exact ⟨i, rfl, by omega, HKE, rfl⟩
                    case round =>
                      clear HKE
                      obtain ⟨e, rfl, hE, HKE, rfl⟩ := hrel
                      cases gk with
                      | zero => omega
                      | succ j2 =>
                      have hk := HKE.out
                      clear HKE
                      unfold keyEnd at hk
                      by_cases hes : e < q.size
                      · rw [dif_pos hes] at hk
                        have hJ : e < q.size ∧ True := ⟨hes, trivial⟩
                        by_cases h46' : q[e]'hJ.1 = 46
                        · rw [if_pos h46'] at hk
                          have b46' : (((q[e]'hJ.1).toNat : Int) == 46) = true := by rw [h46']; rfl
                          have n46' : (((q[e]'hJ.1).toNat : Int) != 46) = false := by rw [h46']; rfl
                          clear h46'
                          have hf := HF.out
                          rw [← hk] at hf
                          simp only at hf
                          clear HF hk
                          have hei : ¬ e = i := by intro h; subst h; rw [b46] at b46'; cases b46'
                          rw [if_neg hei] at hf
                          simp only at hf
                          have b5 : ((i : Int) == (e : Int)) = false := by rw [beq_eq_false_iff_ne]; omega
                          have HF := Lib.hid hf
                          have hbs := HB.out.size
                          have hie : i ≤ e ∧ e ≤ q.size := ⟨hE.1, hE.2.1⟩
                          clear hf
                          go_wp2_with (first | (at_builtin; refine Kd.R_append Kd.string (w0 := w) w.heap.size rfl (.tmp 86) (.tmp 91) 22 9 (.string ⟨#[]⟩) 16 rfl Tryd.underlying22 jq_infoS rfl (by decide) (by decide) _ acc (q.extract i e) [.string (q.extract i e)] (fun _ => True) (fun _ => False) rfl rfl rfl (fun _ hk => hk.elim) (fun _ _ => trivial) HR.out HB.out hbs (by omega) ?_; intro v1 w1 hr1 hb1 hg1 hat1; have HR1 := Lib.hid hr1; have HB1 := Lib.hid hb1; clear hr1 hb1 hg1 hat1) | fail)
                          go_meet
                          case rel => exact ⟨e, acc ++ [q.extract i e], rfl, HR1, ⟨by omega, by rw [List.length_append, List.length_singleton]; omega, by omega⟩, HF, HB1⟩
                        · rw [if_neg h46'] at hk
                          have b46' : (((q[e]'hJ.1).toNat : Int) == 46) = false := jq_not (n := 46) (by decide) h46'
                          have n46' : (((q[e]'hJ.1).toNat : Int) != 46) = true := by rw [bne, b46']; rfl
                          clear h46'
                          by_cases h91' : q[e]'hJ.1 = 91
                          · rw [if_pos h91'] at hk
                            have b91' : (((q[e]'hJ.1).toNat : Int) == 91) = true := by rw [h91']; rfl
                            have n91' : (((q[e]'hJ.1).toNat : Int) != 91) = false := by rw [h91']; rfl
                            clear h91'
                            have hf := HF.out
                            rw [← hk] at hf
                            simp only at hf
                            clear HF hk
                            have hei : ¬ e = i := by intro h; subst h; rw [b91] at b91'; cases b91'
                            rw [if_neg hei] at hf
                            simp only at hf
                            have b5 : ((i : Int) == (e : Int)) = false := by rw [beq_eq_false_iff_ne]; omega
                            have HF := Lib.hid hf
                            have hbs := HB.out.size
                            have hie : i ≤ e ∧ e ≤ q.size := ⟨hE.1, hE.2.1⟩
                            clear hf
                            go_wp2_with (first | (at_builtin; refine Kd.R_append Kd.string (w0 := w) w.heap.size rfl (.tmp 86) (.tmp 91) 22 9 (.string ⟨#[]⟩) 16 rfl Tryd.underlying22 jq_infoS rfl (by decide) (by decide) _ acc (q.extract i e) [.string (q.extract i e)] (fun _ => True) (fun _ => False) rfl rfl rfl (fun _ hk => hk.elim) (fun _ _ => trivial) HR.out HB.out hbs (by omega) ?_; intro v1 w1 hr1 hb1 hg1 hat1; have HR1 := Lib.hid hr1; have HB1 := Lib.hid hb1; clear hr1 hb1 hg1 hat1) | fail)
                            go_meet
                            case rel => exact ⟨e, acc ++ [q.extract i e], rfl, HR1, ⟨by omega, by rw [List.length_append, List.length_singleton]; omega, by omega⟩, HF, HB1⟩
                          · rw [if_neg h91'] at hk
                            have b91' : (((q[e]'hJ.1).toNat : Int) == 91) = false := jq_not (n := 91) (by decide) h91'
                            have n91' : (((q[e]'hJ.1).toNat : Int) != 91) = true := by rw [bne, b91']; rfl
                            clear h91'
                            by_cases h93' : q[e]'hJ.1 = 93
                            · rw [if_pos h93'] at hk
                              have b93' : (((q[e]'hJ.1).toNat : Int) == 93) = true := by rw [h93']; rfl
                              clear h93'
                              have hf := HF.out
                              rw [← hk] at hf
                              simp only at hf
                              subst hf
                              have hmc := hmc.out
                              clear HF hk
                              go_wp2
                              go_quiet (fail)
                              go_wp2
                              go_ret2
                              exact ⟨jq_drewN HB.out _, _, _, rfl⟩
                            · rw [if_neg h93'] at hk
                              have b93' : (((q[e]'hJ.1).toNat : Int) == 93) = false := jq_not (n := 93) (by decide) h93'
                              clear h93'
                              by_cases h34' : q[e]'hJ.1 = 34
                              · rw [if_pos h34'] at hk
                                have b34' : (((q[e]'hJ.1).toNat : Int) == 34) = true := by rw [h34']; rfl
                                clear h34'
                                have hf := HF.out
                                rw [← hk] at hf
                                simp only at hf
                                subst hf
                                have hmc := hmc.out
                                clear HF hk
                                go_wp2
                                go_quiet (fail)
                                go_wp2
                                go_ret2
                                exact ⟨jq_drewN HB.out _, _, _, rfl⟩
                              · rw [if_neg h34'] at hk
                                have b34' : (((q[e]'hJ.1).toNat : Int) == 34) = false := jq_not (n := 34) (by decide) h34'
                                have HKE := Lib.hid hk
                                clear h34' hk
                                go_wp2
                                go_roundg j2
                                case rel => exact ⟨e + 1, by go_num, by omega, HKE, rfl⟩
                                case measure => omega
                      · rw [dif_neg hes] at hk
                        have hee : e = q.size := by omega
                        have hJ : ¬ e < q.size := hes
                        have b0 : decide ((e : Int) < (q.size : Int)) = false := decide_eq_false (by omega)
                        have b1 : (e < q.size) = False := eq_false hes
                        clear hes
                        have hf := HF.out
                        rw [← hk] at hf
                        simp only at hf
                        clear HF hk
                        have hei : ¬ e = i := by omega
                        rw [if_neg hei] at hf
                        subst hee
                        simp only at hf
                        have b5 : ((i : Int) == (q.size : Int)) = false := by rw [beq_eq_false_iff_ne]; omega
                        have HF := Lib.hid hf
                        have hbs := HB.out.size
                        have hie : i ≤ q.size ∧ q.size ≤ q.size := ⟨by omega, Nat.le_refl _⟩
                        clear hf
                        go_wp2_with (first | (at_builtin; refine Kd.R_append Kd.string (w0 := w) w.heap.size rfl (.tmp 86) (.tmp 91) 22 9 (.string ⟨#[]⟩) 16 rfl Tryd.underlying22 jq_infoS rfl (by decide) (by decide) _ acc (q.extract i q.size) [.string (q.extract i q.size)] (fun _ => True) (fun _ => False) rfl rfl rfl (fun _ hk => hk.elim) (fun _ _ => trivial) HR.out HB.out hbs (by omega) ?_; intro v1 w1 hr1 hb1 hg1 hat1; have HR1 := Lib.hid hr1; have HB1 := Lib.hid hb1; clear hr1 hb1 hg1 hat1) | fail)
                        go_meet
                        case rel => exact ⟨q.size, acc ++ [q.extract i q.size], rfl, HR1, ⟨by omega, by rw [List.length_append, List.length_singleton]; omega, by omega⟩, HF, HB1⟩
            case rest =>
              obtain ⟨i1, acc1, rfl, HR1, hN1, HF1, HB1⟩ := hcut
              clear HF HR HB hmc
              obtain ⟨bs, hbs⟩ : ∃ bs, bs = brsL (q.size + 1) q i1 acc1 := ⟨_, rfl⟩
              rw [← hbs] at HF1
              have HS := Lib.hid hbs.symm
              clear hbs
              go_wp2
              go_loopg [4, 5] (q.size + 1) (fun g v4 v5 wc => ∃ (i2 : Nat) (acc2 : List ByteArray), v5 = .int .i64 (i2 : Int) ∧ Hid (Kd.string.R 9 wc w.heap.size (fun _ => True) v4 acc2) ∧ (i ≤ i2 ∧ acc2.length ≤ i2 ∧ i2 ≤ q.size ∧ q.size < i2 + g) ∧ Hid (brsL g q i2 acc2 = bs) ∧ Hid (Below w.heap.size w wc))
              case atStart => exact ⟨i1, acc1, rfl, HR1, by omega, HS, HB1⟩
              case round =>
                clear HR1 HB1 HS hN1
                obtain ⟨i2, acc2, rfl, HR, hN2, HS, HB⟩ := hrel
                cases gk with
                | zero => omega
                | succ j2 =>
                have hk := HS.out
                clear HS
                unfold brsL at hk
                have hmc : Hid (wr.cell? ⟨1, 0, none⟩ = some (.iface tm pm)) := Lib.hid ((HB.out.cell (World.block_lt_of_cell? w _ hm)).trans hm)
                obtain ⟨A2, cap2, rfl⟩ := Kd.R_slice HR.out
                by_cases hes : i2 < q.size
                · rw [dif_pos hes] at hk
                  have hJ : i2 < q.size ∧ True := ⟨hes, trivial⟩
                  by_cases h91 : q[i2]'hJ.1 = 91
                  · rw [if_pos h91] at hk
                    have b91 : (((q[i2]'hJ.1).toNat : Int) == 91) = true := by rw [h91]; rfl
                    clear h91
                    have HC := Lib.hid (bracket_any q i2 wr ⟨by omega, hJ.1⟩ (HG.out.keep HB.out).1)
                    have hbw := HB.out
                    cases hb : brF q i2 with
                    | none =>
                      rw [hb] at hk HC
                      simp only at hk
                      have hf := HF1.out
                      rw [← hk] at hf
                      unfold restP at hf
                      subst hf
                      unfold KPost at HC
                      clear HF1 hk hb
                      go_wp2_with (first | (go_at_call 45; refine HC.out.mono ?_; rintro e w1 ⟨hb1, t, x, rfl⟩; have HB1 := Lib.hid (hbw.trans (hb1.mono hbw.size)); clear hb1) | fail)
                      go_ret2
                      exact ⟨HB1.out, _, _, rfl⟩
                    | some z =>
                      obtain ⟨c, n⟩ := z
                      rw [hb] at hk HC
                      simp only at hk
                      have hlt := brF_lt hb
                      have HS := Lib.hid hk
                      unfold KPost at HC
                      clear hk hb
                      go_wp2_with (first | (go_at_call 45; refine HC.out.mono ?_; rintro e w2 ⟨hb2, rfl⟩; have HR2 := Lib.hid (Kd.R_below HR.out hb2); have HB2 := Lib.hid (hbw.trans (hb2.mono hbw.size)); clear hb2) | (at_builtin; refine Kd.R_append Kd.string (w0 := w) w.heap.size rfl (.tmp 135) (.tmp 137) 22 9 (.string ⟨#[]⟩) 16 rfl Tryd.underlying22 jq_infoS rfl (by decide) (by decide) _ acc2 c [.string c] (fun _ => True) (fun _ => False) rfl rfl rfl (fun _ hk => hk.elim) (fun _ _ => trivial) HR2.out HB2.out HB2.out.size (by omega) ?_; intro v1 w1 hr1 hb1 hg1 hat1; have HR1 := Lib.hid hr1; have HB1 := Lib.hid hb1; clear hr1 hb1 hg1 hat1) | fail)
                      go_roundg j2
                      case rel => exact ⟨n, acc2 ++ [c], by go_num, HR1, ⟨by omega, by rw [List.length_append, List.length_singleton]; omega, by omega, by omega⟩, HS, HB1⟩
                      case measure => omega
                  · rw [if_neg h91] at hk
                    have b91 : (((q[i2]'hJ.1).toNat : Int) == 91) = false := jq_not (n := 91) (by decide) h91
                    clear h91
                    have hf := HF1.out
                    rw [← hk] at hf
                    rw [restP_some, dif_pos hJ.1] at hf
                    have bs : ((i2 : Int) == (q.size : Int)) = false := by rw [beq_eq_false_iff_ne]; omega
                    clear HF1 hk
                    by_cases h46 : q[i2]'hJ.1 = 46
                    · rw [if_pos h46] at hf
                      have b46 : (((q[i2]'hJ.1).toNat : Int) == 46) = true := by rw [h46]; rfl
                      have n46 : (((q[i2]'hJ.1).toNat : Int) != 46) = false := by rw [h46]; rfl
                      clear h46
                      by_cases he1 : i2 + 1 = q.size
                      · rw [if_pos he1] at hf
                        have be : ((i2 : Int) + 1 == (q.size : Int)) = true := by rw [← he1]; simp
                        subst hf
                        have hmc := hmc.out
                        go_wp2
                        go_quiet (fail)
                        go_wp2
                        go_ret2
                        exact ⟨jq_drewN HB.out _, _, _, rfl⟩
                      · rw [if_neg he1] at hf
                        have be : ((i2 : Int) + 1 == (q.size : Int)) = false := by rw [beq_eq_false_iff_ne]; omega
                        have HP := Lib.hid hf
                        clear hf
                        go_wp2
                        go_roundg j
                        case rel => exact ⟨i2 + 1, acc2, by go_num, HR, ⟨by omega, by omega, by omega⟩, HP, HB⟩
                        case measure => omega
                    · rw [if_neg h46] at hf
                      have b46 : (((q[i2]'hJ.1).toNat : Int) == 46) = false := jq_not (n := 46) (by decide) h46
                      have n46 : (((q[i2]'hJ.1).toNat : Int) != 46) = true := by rw [bne, b46]; rfl
                      clear h46
                      subst hf
                      have hmc := hmc.out
                      go_wp2
                      go_quiet (fail)
                      go_wp2
                      go_ret2
                      exact ⟨jq_drewN HB.out _, _, _, rfl⟩
                · rw [dif_neg hes] at hk
                  have hee : i2 = q.size := by omega
                  have hf := HF1.out
                  rw [← hk] at hf
                  rw [restP_some, dif_neg hes] at hf
                  clear HF1 hk
                  have b0 : decide ((i2 : Int) < (q.size : Int)) = false := decide_eq_false (by omega)
                  have b1 : (i2 < q.size) = False := eq_false hes
                  have b2 : ((i2 : Int) == (q.size : Int)) = true := by rw [hee]; simp
                  clear hes
                  by_cases hacc : acc2 = []
                  · rw [if_pos hacc] at hf
                    have ha0 : acc2.length = 0 := by rw [hacc]; rfl
                    have ha1 : ((acc2.length : Int) == 0) = true := by rw [ha0]; rfl
                    subst hf
                    clear hacc
                    have hmc := hmc.out
                    go_wp2
                    go_quiet (fail)
                    go_wp2
                    go_ret2
                    exact ⟨jq_drewN HB.out _, _, _, rfl⟩
                  · rw [if_neg hacc] at hf
                    have ha0 : 0 < acc2.length := List.length_pos_iff.2 hacc
                    have ha1 : ((acc2.length : Int) == 0) = false := by rw [beq_eq_false_iff_ne]; omega
                    subst hf
                    clear hacc
                    go_wp2
                    go_ret2
                    exact ⟨HB.out, _, rfl, HR.out⟩
          · rw [pathL_end _ _ _ _ _ hlt2] at hf
            have hiq : i = q.size := by omega
            subst hiq
            clear hlt2
            by_cases hacc : acc = []
            · rw [if_pos hacc] at hf
              have ha0 : acc.length = 0 := by rw [hacc]; rfl
              have ha1 : ((acc.length : Int) == 0) = true := by rw [ha0]; rfl
              subst hf
              clear hacc
              have hmc := hmc.out
              go_wp2
              go_quiet (fail)
              go_wp2
              go_ret2
              exact ⟨jq_drewN HB.out _, _, _, rfl⟩
            · rw [if_neg hacc] at hf
              have ha0 : 0 < acc.length := List.length_pos_iff.2 hacc
              have ha1 : ((acc.length : Int) == 0) = false := by rw [beq_eq_false_iff_ne]; omega
              subst hf
              clear hacc
              go_wp2
              go_ret2
              exact ⟨HB.out, _, rfl, HR.out⟩
end Go.Proofs.YtnidncohhinjbaaDoor
