/- The walk of match's inner function: what it tells and what becomes of the counter behind its pointer. Condition: the two tables of unicode/utf8 read as the row says; the texts take at most 2^47 - 4096 bytes. -/
import Derived.Test.YtifcmhekpbfboaaDoorMtFun
import Derived.WalkKit
import Derived.WalkSpells
import Derived.WalkSmall
import Derived.Deep.QuietTactic
import Derived.BigQuiet
import Derived.Deep.DeepCutAuto
import Derived.Deep.CutBlock
import Derived.Deep.LoopGhost
import Derived.IntWalk
import Derived.Lib.Hide
import Derived.Outline
import Derived.Lib.TrimU
import Derived.Lib.DecodeN
namespace Go.Proofs.YtifcmhekpbfboaaDoor
open Go.RowKit Go.Proofs.YtifcmhekpbfboaaDoor.MmatchmatchTrimSuffix

/-- The counter stands in block B, all below is as it was, and the tables lie below. -/
def Cnt (B : Nat) (w0 : World) (c : Int) (w : World) : Prop :=
  w.cell? ⟨B, 0, none⟩ = some (.int .i64 c) ∧ w.frozen? ⟨B, 0, none⟩ = false ∧ Below B w0 w ∧ B < w.heap.size ∧ GLU8 w ∧ B > 5 ∧ B > 6

theorem Cnt.keep {B : Nat} {w0 w w' : World} {c : Int} (h : Cnt B w0 c w) (hb : Below w.heap.size w w') : Cnt B w0 c w' := by
  obtain ⟨h1, h2, h3, h4, h5, h6⟩ := h
  exact ⟨(hb.cell (p := ⟨B, 0, none⟩) h4).trans h1, (hb.frozen (p := ⟨B, 0, none⟩) h4).trans h2, h3.trans (hb.mono (by omega)), Nat.lt_of_lt_of_le h4 hb.size, h5.keep hb, h6⟩

theorem get_bang {s : ByteArray} {i : Nat} (h : i < s.size) : s.get! i = s[i] := by
  show s.data[i]! = s.data[i]
  exact getElem!_pos s.data i h
theorem head_ascii {s : ByteArray} (h0 : 0 < s.size) (h : (s[0].toNat : Int) ≤ 127) : hd1 s = s[0].toNat ∧ hd2 s = 1 := by
  unfold hd1 hd2 Lib.decodeGo
  rw [if_neg (by omega)]
  have e : (s.get! (0 + 0)).toNat = s[0].toNat := by rw [get_bang (by omega)]
  unfold Utf8.decode
  simp only [e]
  rw [if_pos (by omega)]
  exact ⟨rfl, rfl⟩
theorem head_calls (s : ByteArray) (B : Nat) (w0 : World) (c : Int) (w : World) (hC : Cnt B w0 c w) :
    Calls Tryd.prog 40 #[.string s] w fun e w' => e = .returned (.tuple #[.int .i32 (hd1 s : Nat), .int .i64 (hd2 s : Nat)]) ∧ Cnt B w0 c w' :=
  (utf8_DecodeRuneInString.calls s (hd1 s : Nat) (hd2 s : Nat) w hC.2.2.2.2.1 rfl).mono fun _ _ h => ⟨h.1, hC.keep h.2⟩
theorem trim_calls (k : Nat) (s p s' p' : ByteArray) (b : Bool) (B : Nat) (w0 : World) (c : Int) (w : World) (hC : Cnt B w0 c w) (h : match_matchTrimSuffix.f k s p false = some (s', p', b)) :
    Calls Tryd.prog 41 #[.string s, .string p, .bool false] w fun e w' => e = .returned (.tuple #[.string s', .string p', .bool b]) ∧ Cnt B w0 c w' :=
  (match_matchTrimSuffix.calls k s p false s' p' b w hC.2.2.2.2.1 h).mono fun _ _ h => ⟨h.1, hC.keep h.2⟩
theorem Cnt.put {B : Nat} {w0 w : World} {c : Int} (h : Cnt B w0 c w) (d : Int) : Cnt B w0 d (w.setCell ⟨B, 0, none⟩ (.int .i64 d)) := by
  obtain ⟨h1, h2, h3, h4, h5, h6, h7⟩ := h
  have far : ∀ (g o : Nat), g < B → (w.setCell ⟨B, 0, none⟩ (.int .i64 d)).cell? ⟨g, o, none⟩ = w.cell? ⟨g, o, none⟩ := fun g o hg => World.cell?_setCell_other _ _ _ _ (by intro e; rw [Addr.mk.injEq] at e; omega)
  refine ⟨World.cell?_setCell_same _ _ _ h1, by rw [World.frozen?_setCell]; exact h2, h3.setCell (Nat.le_refl _) _, by rw [World.size_setCell]; exact h4, ?_, h6, h7⟩
  exact ⟨fun c hc => (far _ _ h6).trans (h5.1 c hc), fun i hi => ⟨(far _ _ h7).trans (h5.2 i hi).1, (far _ _ h7).trans (h5.2 i hi).2⟩⟩

def strSize (v : Value) : Nat := match v with | .string q => q.size | _ => 0
theorem i_ne {a b : Int} (h : ¬ a = b) : (a == b) = false := by simpa using h
theorem n_ne {a b : Nat} (h : ¬ a = b) : (((a : Nat) : Int) == ((b : Nat) : Int)) = false := i_ne (by omega)

def MPost (B : Nat) (w0 : World) (r c : Int) (e : Ending) (w' : World) : Prop := e = .returned (.int .i64 r) ∧ Cnt B w0 c w'

set_option maxHeartbeats 400000 in
set_option maxRecDepth 100000 in
theorem match_any (k : Nat) : ∀ (L slen m : Int) (s p : ByteArray) (c r c' : Int) (B : Nat) (w0 w : World), s.size ≤ 140737488351232 → p.size ≤ 140737488351232 → 0 ≤ m → IntKind.i64.wrap (slen * m) = L → L ≤ 4611686018427387904 →
    mfun k L s p c = some (r, c') → Cnt B w0 c w →
    Calls Tryd.prog 37 #[.string s, .string p, .int .i64 slen, .pointer (some ⟨B, 0, none⟩), .int .i64 m, .bool false] w (MPost B w0 r c') := by
  induction k using Nat.strongRecOn with
  | ind k ih =>
    intro L slen m s p c r c' B w0 w hs hp hm hL hLb hf hC
    have IH := Lib.hid ih
    clear ih
    unfold mfun at hf
    by_cases h0 : 0 ≤ c
    · rw [if_pos h0] at hf
      by_cases hcl : L < c
      · rw [if_pos hcl] at hf
        simp only [Option.some.injEq, Prod.mk.injEq] at hf
        obtain ⟨rfl, rfl⟩ := hf
        obtain ⟨x1, x2, x3⟩ := id hC
        have HC := Lib.hid hC
        clear hC
        have b1 : decide (L < c) = true := decide_eq_true hcl
        go_enter Tryd.func37, Tryd.ntmps37
        go_wp2
        go_ret
        exact ⟨rfl, HC.out⟩
      · rw [if_neg hcl] at hf
        obtain ⟨x1, x2, x3⟩ := id hC
        have HC := Lib.hid hC
        have HF := Lib.hid hf
        clear hC hf
        have b1 : decide (L < c) = false := decide_eq_false hcl
        have hc62 : c ≤ 4611686018427387904 := by omega
        go_enter Tryd.func37, Tryd.ntmps37
        go_upto_region 5 with (fail)
        have HC1 : Hid (Cnt B w0 (c + 1) (w.setCell ⟨B, 0, none⟩ (.int .i64 (c + 1)))) := Lib.hid (HC.out.put _)
        clear x1 x2 x3 b1
        go_loopg [0, 1] k (fun gk v0 v1 wr => ∃ (s' p' : ByteArray) (d : Int), v0 = .string s' ∧ v1 = .string p' ∧ s'.size ≤ 140737488351232 ∧ p'.size ≤ 140737488351232 ∧ Hid (mloop gk L s' p' d = some (r, c')) ∧ gk ≤ k ∧ Hid (Cnt B w0 d wr))
        case atStart => exact ⟨s, p, c + 1, rfl, rfl, hs, hp, HF, Nat.le_refl _, HC1⟩
        case round =>
          clear HC1 HF HC hs hp
          obtain ⟨s', p', d, rfl, rfl, hs, hp, HF, hgk, HC⟩ := hrel
          have hf := HF.out
          clear HF
          cases gk with
          | zero => simp [mloop] at hf
          | succ k1 =>
          simp only [mloop] at hf
          by_cases hp0 : p'.size = 0
          · rw [if_pos hp0] at hf
            simp only [Option.some.injEq, Prod.mk.injEq] at hf
            obtain ⟨hr, rfl⟩ := hf
            have HP0 := Lib.hid hp0
            have HR := Lib.hid hr
            clear hp0 hr
            go_wp2_with fail
            all_goals first
              | (exfalso; have h9 : 0 < p'.size := by assumption
                 have := HP0.out; omega)
              | (go_ret
                 have hz : s'.size = 0 := by
                   have h9 : (((s'.size : Nat) : Int) == 0) = true := by assumption
                   simpa using h9
                 exact ⟨by rw [← HR.out, if_pos hz]; rfl, HC.out⟩)
              | (go_ret
                 have hz : ¬ s'.size = 0 := by
                   have h9 : (((s'.size : Nat) : Int) == 0) = false := by assumption
                   simpa using h9
                 exact ⟨by rw [← HR.out, if_neg hz]; rfl, HC.out⟩)
          · rw [if_neg hp0] at hf
            have hpp : 0 < p'.size := by omega
            have HF := Lib.hid hf
            clear hf hp0
            have hu1 : (0 : Int) ≤ (p'[0].toNat : Int) := by omega
            have hu2 : (p'[0].toNat : Int) ≤ 255 := by have := p'[0].toNat_lt; omega
            go_upto_if 41 with (fail)
            go_cut [14, 15] (fun v14 v15 wc => v14 = .int .i32 (hd1 p' : Nat) ∧ v15 = .int .i64 (hd2 p' : Nat) ∧ Hid (Cnt B w0 d wc))
            case first =>
              by_cases ha : (p'[0].toNat : Int) ≤ 127
              · have hh := head_ascii hpp ha
                have b2 : decide (127 < (p'[0].toNat : Int)) = false := decide_eq_false (by omega)
                have HH := Lib.hid hh
                clear hh
                go_wp2
                go_meet
                case rel => exact ⟨by rw [HH.out.1], by rw [HH.out.2]; rfl, HC⟩
              · have b2 : decide (127 < (p'[0].toNat : Int)) = true := decide_eq_true (by omega)
                go_wp2_with (go_at_call 40; refine (head_calls p' B w0 d _ HC.out).mono ?_; rintro e w' ⟨rfl, hC2⟩)
                go_meet
                case rel => exact ⟨rfl, rfl, Lib.hid hC2⟩
            case rest =>
              obtain ⟨rfl, rfl, HC1⟩ := hcut
              go_upto_if 49 with (fail)
              go_cut [16, 17] (fun v16 v17 wc => v16 = .int .i32 (scz s' : Nat) ∧ v17 = .int .i64 (ssz s' : Nat) ∧ Hid (Cnt B w0 d wc))
              case first =>
                by_cases hs0 : s'.size = 0
                · have e1 : Hid (scz s' = 0 ∧ ssz s' = 0) := Lib.hid ⟨if_pos hs0, if_pos hs0⟩
                  have b2 : decide (0 < (s'.size : Int)) = false := decide_eq_false (by omega)
                  have H0 := Lib.hid hs0
                  clear hs0
                  go_wp2_with fail
                  all_goals first
                    | (exfalso; have h9 : 0 < s'.size := by assumption
                       have := H0.out; omega)
                    | (go_meet; exact ⟨by rw [e1.out.1]; rfl, by rw [e1.out.2]; rfl, HC1⟩)
                · have hsp : 0 < s'.size := by omega
                  have e1 : Hid (scz s' = hd1 s' ∧ ssz s' = hd2 s') := Lib.hid ⟨if_neg hs0, if_neg hs0⟩
                  clear hs0
                  have hu3 : (0 : Int) ≤ (s'[0].toNat : Int) := by omega
                  have hu4 : (s'[0].toNat : Int) ≤ 255 := by have := s'[0].toNat_lt; omega
                  by_cases ha : (s'[0].toNat : Int) ≤ 127
                  · have hh := head_ascii hsp ha
                    have b2 : decide (127 < (s'[0].toNat : Int)) = false := decide_eq_false (by omega)
                    have HH := Lib.hid hh
                    clear hh
                    go_wp2
                    go_meet
                    case rel => exact ⟨by rw [e1.out.1, HH.out.1], by rw [e1.out.2, HH.out.2]; rfl, HC1⟩
                  · have b2 : decide (127 < (s'[0].toNat : Int)) = true := decide_eq_true (by omega)
                    go_wp2_with (go_at_call 40; refine (head_calls s' B w0 d _ HC1.out).mono ?_; rintro e w' ⟨rfl, hC2⟩)
                    go_meet
                    case rel => exact ⟨by rw [e1.out.1], by rw [e1.out.2], Lib.hid hC2⟩
              case rest =>
                obtain ⟨rfl, rfl, HC2⟩ := hcut
                have hf := HF.out
                clear HF HC HC1 hu1 hu2
                by_cases h63 : hd1 p' = 63
                · have b63 : (((hd1 p' : Nat) : Int) == 63) = true := by rw [h63]; rfl
                  rw [if_pos h63] at hf
                  clear h63
                  by_cases hz : ssz s' = 0
                  · have bz : (((ssz s' : Nat) : Int) == 0) = true := by rw [hz]; rfl
                    rw [if_pos hz] at hf
                    simp only [Option.some.injEq, Prod.mk.injEq] at hf
                    obtain ⟨rfl, rfl⟩ := hf
                    clear hz
                    go_wp2
                    go_ret
                    exact ⟨rfl, HC2.out⟩
                  · have bz : (((ssz s' : Nat) : Int) == 0) = false := by simp only [beq_eq_false_iff_ne]; omega
                    rw [if_neg hz] at hf
                    by_cases hss : ssz s' ≤ s'.size
                    · rw [if_pos hss] at hf
                      by_cases hps : hd2 p' ≤ p'.size
                      · rw [if_pos hps] at hf
                        have HF := Lib.hid hf
                        clear hf hz
                        go_wp2
                        go_roundg k1
                        case rel => exact ⟨_, _, d, rfl, rfl, by rw [ByteArray.size_extract]; omega, by rw [ByteArray.size_extract]; omega, HF, by omega, HC2⟩
                        case measure => omega
                      · rw [if_neg hps] at hf; simp at hf
                    · rw [if_neg hss] at hf; simp at hf
                · have b63 : (((hd1 p' : Nat) : Int) == 63) = false := by simp only [beq_eq_false_iff_ne]; omega
                  rw [if_neg h63] at hf
                  clear h63
                  by_cases h42 : hd1 p' = 42
                  · have b42 : (((hd1 p' : Nat) : Int) == 42) = true := by rw [h42]; rfl
                    rw [if_pos h42] at hf
                    clear h42
                    obtain ⟨pe, hpe, hf⟩ := Option.bind_eq_some_iff.1 hf
                    have HF := Lib.hid hf
                    have HPE := Lib.hid hpe
                    clear hf hpe
                    go_upto_block 3 with (fail)
                    go_cut [1] (fun v1 wc' => v1 = .string pe ∧ 0 < pe.size ∧ pe.size ≤ 140737488351232 ∧ wc' = wc)
                    case first =>
                      go_wp2
                      go_loop [1] (fun v1 => ∃ (q : ByteArray) (j : Nat), v1 = .string q ∧ 0 < q.size ∧ q.size ≤ 140737488351232 ∧ Hid (skipS j q = some pe)) (fun v1 => strSize v1)
                      case atStart => exact ⟨p', k1, rfl, hpp, hp, HPE⟩
                      case round =>
                        clear HPE
                        obtain ⟨q, j, rfl, hq0, hql, hQ⟩ := hrel
                        have hq := hQ.out
                        clear hQ
                        cases j with
                        | zero => simp [skipS] at hq
                        | succ j =>
                        simp only [skipS] at hq
                        by_cases h1 : 1 < q.size
                        · rw [dif_pos h1] at hq
                          by_cases hst : q[1] = 42
                          · rw [if_pos hst] at hq
                            have bst : ((q[1].toNat : Int) == 42) = true := by rw [hst]; rfl
                            have HQ := Lib.hid hq
                            clear hq hst
                            go_wp2
                            go_round
                            case rel => exact ⟨_, j, rfl, by rw [ByteArray.size_extract]; omega, by rw [ByteArray.size_extract]; omega, HQ⟩
                            case measure => simp only [strSize, ByteArray.size_extract]; omega
                          · rw [if_neg hst] at hq
                            obtain rfl : q = pe := by simpa using hq
                            have bst : ((q[1].toNat : Int) == 42) = false := i_ne fun e => hst (UInt8.toNat_inj.1 (by show q[1].toNat = 42; omega))
                            clear hq hst
                            go_wp2
                            go_meet
                            case rel => exact ⟨rfl, hq0, hql, rfl⟩
                        · rw [dif_neg h1] at hq
                          obtain rfl : q = pe := by simpa using hq
                          have c1 : decide (1 < (q.size : Int)) = false := decide_eq_false (by omega)
                          have c2 : decide (1 < q.size) = false := decide_eq_false h1
                          have c3 : q.size ≤ 1 := by omega
                          clear hq h1
                          go_wp2
                          go_meet
                          case rel => exact ⟨rfl, hq0, hql, rfl⟩
                    case rest =>
                      obtain ⟨rfl, hpe0, hpel, rfl⟩ := hcut
                      have hf := HF.out
                      clear HF HPE hpp
                      by_cases h1 : pe.size = 1
                      · have b1 : (((pe.size : Nat) : Int) == 1) = true := by rw [h1]; rfl
                        rw [if_pos h1] at hf
                        simp only [Option.some.injEq, Prod.mk.injEq] at hf
                        obtain ⟨rfl, rfl⟩ := hf
                        clear h1
                        go_wp2
                        go_ret
                        exact ⟨rfl, HC2.out⟩
                      · have b1 : (((pe.size : Nat) : Int) == 1) = false := n_ne (b := 1) h1
                        rw [if_neg h1] at hf
                        obtain ⟨⟨s2, p2, ok⟩, htr, hf⟩ := Option.bind_eq_some_iff.1 hf
                        simp only at hf
                        have HT : Hid (∀ w, Cnt B w0 d w → Calls Tryd.prog 41 #[.string s', .string pe, .bool false] w fun e w' => e = .returned (.tuple #[.string s2, .string p2, .bool ok]) ∧ Cnt B w0 d w') := Lib.hid fun w hw => trim_calls k1 s' pe s2 p2 ok B w0 d w hw htr
                        clear h1 htr
                        cases ok with
                        | false =>
                          rw [if_neg (by simp)] at hf
                          simp only [Option.some.injEq, Prod.mk.injEq] at hf
                          obtain ⟨rfl, rfl⟩ := hf
                          go_wp2_with (go_at_call 41; refine (HT.out _ HC2.out).mono ?_; rintro e w' ⟨rfl, hC3⟩)
                          go_ret
                          exact ⟨rfl, hC3⟩
                        | true =>
                          rw [if_pos rfl] at hf
                          by_cases h2 : p2.size = 1
                          · have b2 : (((p2.size : Nat) : Int) == 1) = true := by rw [h2]; rfl
                            rw [if_pos h2] at hf
                            simp only [Option.some.injEq, Prod.mk.injEq] at hf
                            obtain ⟨rfl, rfl⟩ := hf
                            clear h2
                            go_wp2_with (go_at_call 41; refine (HT.out _ HC2.out).mono ?_; rintro e w' ⟨rfl, hC3⟩)
                            go_ret
                            exact ⟨rfl, hC3⟩
                          · have b2 : (((p2.size : Nat) : Int) == 1) = false := n_ne (b := 1) h2
                            rw [if_neg h2] at hf
                            by_cases h3 : 1 < p2.size ∧ s2.size ≤ s'.size ∧ p2.size ≤ pe.size ∧ pe.size ≤ p'.size
                            · rw [if_neg (by simpa using h3)] at hf
                              obtain ⟨h3a, h3b, h3c, -⟩ := h3
                              obtain ⟨⟨r1, d1⟩, hrec, hf⟩ := Option.bind_eq_some_iff.1 hf
                              simp only at hf
                              have HR : Hid (∀ w, Cnt B w0 d w → Calls Tryd.prog 37 #[.string s2, .string (p2.extract 1 p2.size), .int .i64 slen, .pointer (some ⟨B, 0, none⟩), .int .i64 m, .bool false] w (MPost B w0 r1 d1)) :=
                                Lib.hid fun w hw => IH.out k1 (by omega) L slen m s2 (p2.extract 1 p2.size) d r1 d1 B w0 w (by omega) (by rw [ByteArray.size_extract]; omega) hm hL hLb hrec hw
                              clear h2 hrec
                              by_cases hr1 : r1 = 0
                              · subst hr1
                                rw [if_pos rfl] at hf
                                by_cases hz : s2.size = 0
                                · have bz : (((s2.size : Nat) : Int) == 0) = true := by rw [hz]; rfl
                                  rw [if_pos hz] at hf
                                  simp only [Option.some.injEq, Prod.mk.injEq] at hf
                                  obtain ⟨rfl, rfl⟩ := hf
                                  clear hz
                                  go_wp2_with (first | (go_at_call 41; refine (HT.out _ HC2.out).mono ?_; rintro e w' ⟨rfl, hC3⟩; have HC3 := Lib.hid hC3; clear hC3) | (go_at_call 37; refine (HR.out _ HC3.out).mono ?_; rintro e w' ⟨rfl, hC4⟩; have HC4 := Lib.hid hC4; clear hC4))
                                  go_ret
                                  exact ⟨rfl, HC4.out⟩
                                · have bz : (((s2.size : Nat) : Int) == 0) = false := n_ne (b := 0) hz
                                  rw [if_neg hz] at hf
                                  by_cases hss : ssz s' ≤ s2.size
                                  · rw [if_pos hss] at hf
                                    have HF := Lib.hid hf
                                    clear hf hz
                                    go_wp2_with (first | (go_at_call 41; refine (HT.out _ HC2.out).mono ?_; rintro e w' ⟨rfl, hC3⟩; have HC3 := Lib.hid hC3; clear hC3) | (go_at_call 37; refine (HR.out _ HC3.out).mono ?_; rintro e w' ⟨rfl, hC4⟩; have HC4 := Lib.hid hC4; clear hC4))
                                    go_roundg k1
                                    case rel => exact ⟨_, _, d1, rfl, rfl, by rw [ByteArray.size_extract]; omega, by omega, HF, by omega, HC4⟩
                                    case measure => omega
                                  · rw [if_neg hss] at hf; simp at hf
                              · rw [if_neg hr1] at hf
                                simp only [Option.some.injEq, Prod.mk.injEq] at hf
                                obtain ⟨rfl, rfl⟩ := hf
                                have br : (r1 == 0) = false := i_ne hr1
                                have br' : (r1 != 0) = true := by simpa using hr1
                                clear hr1
                                go_wp2_with (first | (go_at_call 41; refine (HT.out _ HC2.out).mono ?_; rintro e w' ⟨rfl, hC3⟩; have HC3 := Lib.hid hC3; clear hC3) | (go_at_call 37; refine (HR.out _ HC3.out).mono ?_; rintro e w' ⟨rfl, hC4⟩; have HC4 := Lib.hid hC4; clear hC4))
                                go_ret
                                exact ⟨rfl, HC4.out⟩
                            · rw [if_pos (by simpa using h3)] at hf; simp at hf
                  · have b42 : (((hd1 p' : Nat) : Int) == 42) = false := n_ne (b := 42) h42
                    rw [if_neg h42] at hf
                    clear h42
                    by_cases hz : ssz s' = 0
                    · have bz : (((ssz s' : Nat) : Int) == 0) = true := by rw [hz]; rfl
                      rw [if_pos hz] at hf
                      simp only [Option.some.injEq, Prod.mk.injEq] at hf
                      obtain ⟨rfl, rfl⟩ := hf
                      clear hz
                      go_wp2
                      go_ret
                      exact ⟨rfl, HC2.out⟩
                    · have bz : (((ssz s' : Nat) : Int) == 0) = false := n_ne (b := 0) hz
                      rw [if_neg hz] at hf
                      clear hz
                      by_cases h92 : hd1 p' = 92
                      · have b92 : (((hd1 p' : Nat) : Int) == 92) = true := by rw [h92]; rfl
                        rw [if_pos h92] at hf
                        clear h92
                        by_cases hps : hd2 p' ≤ p'.size
                        · rw [if_pos hps] at hf
                          obtain ⟨q, hq⟩ : ∃ q, q = p'.extract (hd2 p') p'.size := ⟨_, rfl⟩
                          have hql : q.size ≤ 140737488351232 := by rw [hq, ByteArray.size_extract]; omega
                          rw [← hq] at hf
                          have HQ := Lib.hid hq
                          clear hq
                          by_cases hz2 : hd2 q = 0
                          · have bz2 : (((hd2 q : Nat) : Int) == 0) = true := by rw [hz2]; rfl
                            rw [if_pos hz2] at hf
                            simp only [Option.some.injEq, Prod.mk.injEq] at hf
                            obtain ⟨rfl, rfl⟩ := hf
                            clear hz2
                            go_wp2_with fail
                            rw [← HQ.out]
                            go_wp2_with (go_at_call 40; refine (head_calls q B w0 d _ HC2.out).mono ?_; rintro e w' ⟨rfl, hC3⟩)
                            go_ret
                            exact ⟨rfl, hC3⟩
                          · have bz2 : (((hd2 q : Nat) : Int) == 0) = false := n_ne (b := 0) hz2
                            rw [if_neg hz2] at hf
                            clear hz2
                            by_cases he : scz s' = hd1 q
                            · have be : (((scz s' : Nat) : Int) != ((hd1 q : Nat) : Int)) = false := by simp [he]
                              rw [if_pos he] at hf
                              by_cases hss : ssz s' ≤ s'.size
                              · rw [if_pos hss] at hf
                                by_cases hps2 : hd2 q ≤ q.size
                                · rw [if_pos hps2] at hf
                                  have HF := Lib.hid hf
                                  clear hf he
                                  go_wp2_with fail
                                  rw [← HQ.out]
                                  go_wp2_with (go_at_call 40; refine (head_calls q B w0 d _ HC2.out).mono ?_; rintro e w' ⟨rfl, hC3⟩; have HC3 := Lib.hid hC3; clear hC3)
                                  go_roundg k1
                                  case rel => exact ⟨_, _, d, rfl, rfl, by rw [ByteArray.size_extract]; omega, by rw [ByteArray.size_extract]; omega, HF, by omega, HC3⟩
                                  case measure => omega
                                · rw [if_neg hps2] at hf; simp at hf
                              · rw [if_neg hss] at hf; simp at hf
                            · have be : (((scz s' : Nat) : Int) != ((hd1 q : Nat) : Int)) = true := by simpa using (show ¬ (((scz s' : Nat) : Int) = ((hd1 q : Nat) : Int)) by omega)
                              rw [if_neg he] at hf
                              simp only [Option.some.injEq, Prod.mk.injEq] at hf
                              obtain ⟨rfl, rfl⟩ := hf
                              clear he
                              go_wp2_with fail
                              rw [← HQ.out]
                              go_wp2_with (go_at_call 40; refine (head_calls q B w0 d _ HC2.out).mono ?_; rintro e w' ⟨rfl, hC3⟩)
                              go_ret
                              exact ⟨rfl, hC3⟩
                        · rw [if_neg hps] at hf; simp at hf
                      · have b92 : (((hd1 p' : Nat) : Int) == 92) = false := n_ne (b := 92) h92
                        rw [if_neg h92] at hf
                        clear h92
                        by_cases he : scz s' = hd1 p'
                        · have be : (((scz s' : Nat) : Int) != ((hd1 p' : Nat) : Int)) = false := by simp [he]
                          rw [if_pos he] at hf
                          by_cases hss : ssz s' ≤ s'.size
                          · rw [if_pos hss] at hf
                            by_cases hps : hd2 p' ≤ p'.size
                            · rw [if_pos hps] at hf
                              have HF := Lib.hid hf
                              clear hf he
                              go_wp2
                              go_roundg k1
                              case rel => exact ⟨_, _, d, rfl, rfl, by rw [ByteArray.size_extract]; omega, by rw [ByteArray.size_extract]; omega, HF, by omega, HC2⟩
                              case measure => omega
                            · rw [if_neg hps] at hf; simp at hf
                          · rw [if_neg hss] at hf; simp at hf
                        · have be : (((scz s' : Nat) : Int) != ((hd1 p' : Nat) : Int)) = true := by simpa using (show ¬ (((scz s' : Nat) : Int) = ((hd1 p' : Nat) : Int)) by omega)
                          rw [if_neg he] at hf
                          simp only [Option.some.injEq, Prod.mk.injEq] at hf
                          obtain ⟨rfl, rfl⟩ := hf
                          clear he
                          go_wp2
                          go_ret
                          exact ⟨rfl, HC2.out⟩
    · rw [if_neg h0] at hf; simp at hf

end Go.Proofs.YtifcmhekpbfboaaDoor
