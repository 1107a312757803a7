/- The walk of gjson's parseQuery where the text begins with a query. Condition: the text takes at most 2^47 - 4096 bytes. -/
import Derived.Test.YtifcmhekpbfboaaPq0
namespace Go.Proofs.Ytifcmhekpbfboaa
open Go.RowKit
open Go.Proofs.YtifcmhekpbfboaaW.PrintWords (results_list)

theorem qStr_stop {s : ByteArray} {k i : Nat} {v : Bool} (h : ¬ i < s.size) : qStr s k i v = (i, v) := by
  cases k with
  | zero => rfl
  | succ k => unfold qStr; rw [if_neg h]
theorem qStr_esc {s : ByteArray} {k i : Nat} {v : Bool} (h : i < s.size) (hc : byteAt s i = 92) : qStr s (k + 1) i v = qStr s k (i + 2) true := by
  rw [qStr, if_pos h, if_pos hc]
theorem qStr_end {s : ByteArray} {k i : Nat} {v : Bool} (h : i < s.size) (hc : byteAt s i = 34) : qStr s (k + 1) i v = (i, v) := by
  rw [qStr, if_pos h, if_neg (by omega), if_pos hc]
theorem qStr_go {s : ByteArray} {k i : Nat} {v : Bool} (h : i < s.size) (h1 : ¬ byteAt s i = 92) (h2 : ¬ byteAt s i = 34) : qStr s (k + 1) i v = qStr s k (i + 1) v := by
  rw [qStr, if_pos h, if_neg h1, if_neg h2]

theorem qStr_esc' {s : ByteArray} {k m i : Nat} {v : Bool} (hk : k = m + 1) (h : i < s.size) (hc : byteAt s i = 92) : qStr s k i v = qStr s m (i + 2) true := by subst hk; exact qStr_esc h hc
theorem qStr_end' {s : ByteArray} {k m i : Nat} {v : Bool} (hk : k = m + 1) (h : i < s.size) (hc : byteAt s i = 34) : qStr s k i v = (i, v) := by subst hk; exact qStr_end h hc
theorem qStr_go' {s : ByteArray} {k m i : Nat} {v : Bool} (hk : k = m + 1) (h : i < s.size) (h1 : ¬ byteAt s i = 92) (h2 : ¬ byteAt s i = 34) : qStr s k i v = qStr s m (i + 1) v := by subst hk; exact qStr_go h h1 h2

def QInv (s : ByteArray) (k i j d : Nat) (v : Bool) : Prop := qLoop s k i j d v = qLoop s (s.size + 2) 2 0 1 false ∧ s.size + 4 ≤ k + i ∧ (0 < j → 2 ≤ j ∧ j < i ∧ j < s.size ∧ qOp (byteAt s j) = true)
theorem qInv_op {s : ByteArray} {k i j d : Nat} {v : Bool} (H : QInv s k i j d v) (h : i < s.size) (h2 : 2 ≤ i) (hA : d = 1 ∧ j = 0 ∧ qOp (byteAt s i) = true) : ∃ k', k = k' + 1 ∧ QInv s k' (i + 1) i d v := by
  obtain ⟨a, b, c⟩ := H
  obtain ⟨k', rfl⟩ : ∃ k', k = k' + 1 := ⟨k - 1, by omega⟩
  rw [qLoop, if_pos h, if_pos hA] at a
  exact ⟨k', rfl, a, by omega, fun _ => ⟨h2, by omega, h, hA.2.2⟩⟩
theorem qInv_esc {s : ByteArray} {k i j d : Nat} {v : Bool} (H : QInv s k i j d v) (h : i < s.size) (hA : ¬ (d = 1 ∧ j = 0 ∧ qOp (byteAt s i) = true)) (hc : byteAt s i = 92) : ∃ k', k = k' + 1 ∧ QInv s k' (i + 2) j d v := by
  obtain ⟨a, b, c⟩ := H
  obtain ⟨k', rfl⟩ : ∃ k', k = k' + 1 := ⟨k - 1, by omega⟩
  rw [qLoop, if_pos h, if_neg hA, if_pos hc] at a
  exact ⟨k', rfl, a, by omega, fun h => ⟨(c h).1, by have := (c h).2.1; omega, (c h).2.2.1, (c h).2.2.2⟩⟩
theorem qInv_open {s : ByteArray} {k i j d : Nat} {v : Bool} (H : QInv s k i j d v) (h : i < s.size) (hA : ¬ (d = 1 ∧ j = 0 ∧ qOp (byteAt s i) = true)) (hc : byteAt s i = 91 ∨ byteAt s i = 40) : ∃ k', k = k' + 1 ∧ QInv s k' (i + 1) j (d + 1) v := by
  obtain ⟨a, b, c⟩ := H
  obtain ⟨k', rfl⟩ : ∃ k', k = k' + 1 := ⟨k - 1, by omega⟩
  rw [qLoop, if_pos h, if_neg hA, if_neg (by omega), if_pos hc] at a
  exact ⟨k', rfl, a, by omega, fun h => ⟨(c h).1, by have := (c h).2.1; omega, (c h).2.2.1, (c h).2.2.2⟩⟩
theorem qInv_shut {s : ByteArray} {k i j d : Nat} {v : Bool} (H : QInv s k i j d v) (h : i < s.size) (hA : ¬ (d = 1 ∧ j = 0 ∧ qOp (byteAt s i) = true)) (hc : byteAt s i = 93 ∨ byteAt s i = 41) (hd : ¬ d = 1) : ∃ k', k = k' + 1 ∧ QInv s k' (i + 1) j (d - 1) v := by
  obtain ⟨a, b, c⟩ := H
  obtain ⟨k', rfl⟩ : ∃ k', k = k' + 1 := ⟨k - 1, by omega⟩
  rw [qLoop, if_pos h, if_neg hA, if_neg (by omega), if_neg (by omega), if_pos hc, if_neg hd] at a
  exact ⟨k', rfl, a, by omega, fun h => ⟨(c h).1, by have := (c h).2.1; omega, (c h).2.2.1, (c h).2.2.2⟩⟩
theorem qInv_str {s : ByteArray} {k i j d : Nat} {v : Bool} (H : QInv s k i j d v) (h : i < s.size) (hA : ¬ (d = 1 ∧ j = 0 ∧ qOp (byteAt s i) = true)) (hc : byteAt s i = 34) {i2 : Nat} {v2 : Bool} (hq : qStr s (s.size + 2) (i + 1) v = (i2, v2)) (h2 : i + 1 ≤ i2) : ∃ k', k = k' + 1 ∧ QInv s k' (i2 + 1) j d v2 := by
  obtain ⟨a, b, c⟩ := H
  obtain ⟨k', rfl⟩ : ∃ k', k = k' + 1 := ⟨k - 1, by omega⟩
  rw [qLoop, if_pos h, if_neg hA, if_neg (by omega), if_neg (by omega), if_neg (by omega), if_pos hc, hq] at a
  exact ⟨k', rfl, a, by omega, fun h => ⟨(c h).1, by have := (c h).2.1; omega, (c h).2.2.1, (c h).2.2.2⟩⟩
theorem qInv_go {s : ByteArray} {k i j d : Nat} {v : Bool} (H : QInv s k i j d v) (h : i < s.size) (hA : ¬ (d = 1 ∧ j = 0 ∧ qOp (byteAt s i) = true)) (h1 : ¬ byteAt s i = 92) (h2 : ¬ (byteAt s i = 91 ∨ byteAt s i = 40)) (h3 : ¬ (byteAt s i = 93 ∨ byteAt s i = 41)) (h4 : ¬ byteAt s i = 34) : ∃ k', k = k' + 1 ∧ QInv s k' (i + 1) j d v := by
  obtain ⟨a, b, c⟩ := H
  obtain ⟨k', rfl⟩ : ∃ k', k = k' + 1 := ⟨k - 1, by omega⟩
  rw [qLoop, if_pos h, if_neg hA, if_neg h1, if_neg h2, if_neg h3, if_neg h4] at a
  exact ⟨k', rfl, a, by omega, fun h => ⟨(c h).1, by have := (c h).2.1; omega, (c h).2.2.1, (c h).2.2.2⟩⟩
/-- What holds behind the loop. -/
def QOut (s : ByteArray) (i j d : Nat) (v : Bool) : Prop := qLoop s (s.size + 2) 2 0 1 false = (i, j, d, v) ∧ (d = 0 → i < s.size ∧ (byteAt s i = 93 ∨ byteAt s i = 41)) ∧ (0 < j → 2 ≤ j ∧ j < i ∧ j < s.size ∧ qOp (byteAt s j) = true)
theorem qOut_last {s : ByteArray} {k i j d : Nat} {v : Bool} (H : QInv s k i j d v) (h : ¬ i < s.size) (hi : i ≤ s.size + 2) (hd : 1 ≤ d) : QOut s i j d v := by
  obtain ⟨a, b, c⟩ := H
  obtain ⟨k', rfl⟩ : ∃ k', k = k' + 1 := ⟨k - 1, by omega⟩
  rw [qLoop, if_neg h] at a
  exact ⟨a.symm, fun h => by omega, c⟩
theorem qOut_shut {s : ByteArray} {k i j : Nat} {v : Bool} (H : QInv s k i j 1 v) (h : i < s.size) (hA : ¬ (1 = 1 ∧ j = 0 ∧ qOp (byteAt s i) = true)) (hc : byteAt s i = 93 ∨ byteAt s i = 41) : QOut s i j 0 v := by
  obtain ⟨a, b, c⟩ := H
  obtain ⟨k', rfl⟩ : ∃ k', k = k' + 1 := ⟨k - 1, by omega⟩
  rw [qLoop, if_pos h, if_neg hA, if_neg (by omega), if_neg (by omega), if_pos hc, if_pos rfl] at a
  exact ⟨a.symm, fun _ => ⟨h, hc⟩, c⟩
def qSelOf (v : ByteArray) (x y : Nat) : ByteArray × Nat :=
  if x = 33 ∧ y = 61 then (v, 2)
  else if x = 33 ∧ y = 37 then (v, 2)
  else if x = 60 ∧ y = 61 then (v, 2)
  else if x = 62 ∧ y = 61 then (v, 2)
  else if x = 61 ∧ y = 61 then (v.extract 1 v.size, 1)
  else if x = 60 then (v, 1)
  else if x = 62 then (v, 1)
  else if x = 61 then (v, 1)
  else if x = 37 then (v, 1)
  else (v, 0)
theorem qSel_le {v v' : ByteArray} {k : Nat} (h : qSel v = (v', k)) : v'.size ≤ v.size := by
  have key : (qSel v).1.size ≤ v.size := by
    unfold qSel
    repeat' split
    all_goals first | exact Nat.le_refl _ | (rw [ByteArray.size_extract]; omega)
  rw [h] at key
  exact key
theorem trimZ_keep : ∀ (n : Nat) (t : ByteArray) (h : 0 < t.size), ¬ t[0] ≤ 32 → 0 < (trimZ n t).size
  | 0, _, h, _ => h
  | n + 1, t, h, h0 => by
    unfold trimZ
    rw [dif_pos h]
    split
    · rename_i hl
      have h2 : 1 < t.size := by
        by_cases e : t.size = 1
        · exfalso; apply h0
          have : t[t.size - 1] = t[0] := by congr 1; omega
          rw [← this]; exact hl
        · omega
      have hs : (t.extract 0 (t.size - 1)).size = t.size - 1 := by rw [ByteArray.size_extract]; omega
      refine trimZ_keep n _ (by omega) ?_
      rw [ByteArray.getElem_extract]
      exact h0
    · exact h
theorem trimS_ne {t : ByteArray} (h : 0 < t.size) (h0 : ¬ t[0] ≤ 32) : 0 < (trimS t).size := by
  unfold trimS
  rw [trimA_stop h h0]
  exact trimZ_keep _ t h h0
theorem trimZ_le : ∀ (n : Nat) (t : ByteArray), (trimZ n t).size ≤ t.size
  | 0, _ => Nat.le_refl _
  | n + 1, t => by
    unfold trimZ
    split
    · split
      · exact Nat.le_trans (trimZ_le n _) (by rw [ByteArray.size_extract]; omega)
      · exact Nat.le_refl _
    · exact Nat.le_refl _
theorem trimA_le : ∀ (n : Nat) (t : ByteArray), (trimA n t).size ≤ t.size
  | 0, _ => Nat.le_refl _
  | n + 1, t => by
    unfold trimA
    split
    · split
      · exact Nat.le_trans (trimA_le n _) (by rw [ByteArray.size_extract]; omega)
      · exact Nat.le_refl _
    · exact Nat.le_refl _
theorem trimS_le (t : ByteArray) : (trimS t).size ≤ t.size := Nat.le_trans (trimZ_le _ _) (trimA_le _ _)
theorem i_eq {n m : Nat} (h : ¬ n = m) : ((n : Int) == (m : Int)) = false := by simp only [beq_eq_false_iff_ne]; omega

set_option maxHeartbeats 16000000 in
set_option maxRecDepth 100000 in
theorem query_yes (s : ByteArray) (w : World) (hs : s.size ≤ 140737488351232) (hq : qHead s = true) : Calls Try.prog 52 #[.string s] w (QRet (qOf s) w) := by
  obtain ⟨b0, hb0⟩ : ∃ b, b = byteAt s 0 := ⟨_, rfl⟩
  obtain ⟨b1, hb1⟩ : ∃ b, b = byteAt s 1 := ⟨_, rfl⟩
  have HQ : Hid (qOf s = qEnd s (qLoop s (s.size + 2) 2 0 1 false)) := Lib.hid (by unfold qOf; rw [if_pos hq])
  have hn : 2 ≤ s.size ∧ b0 = 35 ∧ (b1 = 40 ∨ b1 = 91) := by
    unfold qHead at hq
    rw [← hb0, ← hb1] at hq
    simpa [and_assoc] using hq
  obtain ⟨h2, c0, c1⟩ := hn
  have e0 : s[0].toNat = b0 := (byteAt_eq (show 0 < s.size by omega)).trans hb0.symm
  have e1 : s[1].toNat = b1 := (byteAt_eq (show 1 < s.size by omega)).trans hb1.symm
  subst c0
  clear hq hb0 hb1
  have C1 := Lib.hid c1
  clear c1
  have ez : decide ((s.size : Int) < 2) = false := decide_eq_false (by omega)
  go_enter Try.func52, Try.ntmps52
  go_upto_region 1 with (fail)
  go_cut [29] (fun v wc => v = .bool false ∧ wc = w)
  case first =>
    as_aux_lemma =>
     rcases C1.out with rfl | rfl
     · go_wp2
       go_meet
       case rel => exact ⟨rfl, rfl⟩
     · go_wp2
       go_meet
       case rel => exact ⟨rfl, rfl⟩
  case rest =>
    as_aux_lemma =>
     obtain ⟨rfl, rfl⟩ := hcut
     clear e0 e1 C1
     go_upto_block 0 with (fail)
     go_cut [6, 7, 9, 10] (fun i v j d wc' => ∃ (i0 j0 d0 : Nat) (v0 : Bool), i = .int .i64 i0 ∧ v = .bool v0 ∧ j = .int .i64 j0 ∧ d = .int .i64 d0 ∧ i0 ≤ s.size + 2 ∧ 2 ≤ i0 ∧ d0 ≤ s.size + 2 ∧ Hid (QOut s i0 j0 d0 v0) ∧ wc' = wc)
     case first =>
       as_aux_lemma =>
        have S0 : Hid (QInv s (s.size + 2) 2 0 1 false) := Lib.hid ⟨rfl, by omega, fun h => by omega⟩
        go_wp2
        go_loopg [6, 7, 9, 10] (s.size + 2) (fun k i v j d wr => ∃ (i0 j0 d0 : Nat) (v0 : Bool), i = .int .i64 i0 ∧ v = .bool v0 ∧ j = .int .i64 j0 ∧ d = .int .i64 d0 ∧ i0 ≤ s.size + 2 ∧ 2 ≤ i0 ∧ 1 ≤ d0 ∧ d0 ≤ i0 ∧ j0 ≤ i0 ∧ Hid (QInv s k i0 j0 d0 v0) ∧ wr = wc)
        case atStart => exact ⟨2, 0, 1, false, by go_num, rfl, by go_num, by go_num, by omega, by omega, by omega, by omega, by omega, S0, rfl⟩
        case round =>
          obtain ⟨i, j, d, v, rfl, rfl, rfl, rfl, hi, hi2, hd1, hd2, hj, HI, rfl⟩ := hrel
          clear S0
          by_cases hlt : i < s.size
          · obtain ⟨c, hc⟩ : ∃ c, c = byteAt s i := ⟨_, rfl⟩
            have ec : s[i].toNat = c := (byteAt_eq hlt).trans hc.symm
            have HC := Lib.hid hc
            clear hc
            by_cases hA : d = 1 ∧ j = 0 ∧ qOp c = true
            · obtain ⟨rfl, rfl, hop⟩ := hA
              obtain ⟨k', hk', HN⟩ := qInv_op HI.out hlt hi2 ⟨rfl, rfl, by rw [← HC.out]; exact hop⟩
              have HK := Lib.hid hk'
              have HN' := Lib.hid HN
              have hcs : c = 33 ∨ c = 61 ∨ c = 60 ∨ c = 62 ∨ c = 37 := by unfold qOp at hop; simpa [or_assoc] using hop
              clear hk' HN hop HC HI
              rcases hcs with rfl | rfl | rfl | rfl | rfl
              all_goals
                go_wp2
                go_roundg k'
                case measure => have := HK.out; omega
                case rel => exact ⟨i + 1, i, 1, v, by go_num, rfl, by go_num, by go_num, by omega, by omega, by omega, by omega, by omega, HN', rfl⟩
            · skip
              have HA : ¬ (d = 1 ∧ j = 0 ∧ qOp (byteAt s i) = true) := by rw [← HC.out]; exact hA
              have HNA := Lib.hid HA
              go_upto_region 8 with (fail)
              go_cut [42] (fun v wc' => v = .bool (decide (d = 1 ∧ j = 0)) ∧ wc' = wr)
              case first =>
                as_aux_lemma =>
                 by_cases hd : d = 1
                 · subst hd
                   by_cases hj0 : j = 0
                   · subst hj0
                     go_wp2
                     go_meet
                     case rel => exact ⟨rfl, rfl⟩
                   · have d1 := i_eq hj0
                     have d2 : decide (1 = 1 ∧ j = 0) = false := decide_eq_false (fun h => hj0 h.2)
                     go_wp2
                     go_meet
                     case rel => exact ⟨by simp [hj0], rfl⟩
                 · have d1 := i_eq hd
                   go_wp2
                   go_meet
                   case rel => exact ⟨by simp [hd], rfl⟩
              case rest =>
               as_aux_lemma =>
                obtain ⟨rfl, rfl⟩ := hcut
                go_upto_if 42 with (fail)
                go_cut [9] (fun j' wc' => j' = .int .i64 j ∧ wc' = wc)
                case first =>
                 as_aux_lemma =>
                  by_cases hdj : d = 1 ∧ j = 0
                  · have hop : qOp c = false := by
                      cases h : qOp c with
                      | false => rfl
                      | true => exact absurd ⟨hdj.1, hdj.2, h⟩ hA
                    have hcs : ¬ c = 33 ∧ ¬ c = 61 ∧ ¬ c = 60 ∧ ¬ c = 62 ∧ ¬ c = 37 := by unfold qOp at hop; simpa [and_assoc] using hop
                    have hb : decide (d = 1 ∧ j = 0) = true := decide_eq_true hdj
                    obtain ⟨c1, c2, c3, c4, c5⟩ := hcs
                    have d1 : ((c : Int) == 33) = false := i_eq c1
                    have d2 : ((c : Int) == 61) = false := i_eq c2
                    have d3 : ((c : Int) == 60) = false := i_eq c3
                    have d4 : ((c : Int) == 62) = false := i_eq c4
                    have d5 : ((c : Int) == 37) = false := i_eq c5
                    clear hop c1 c2 c3 c4 c5 hA HA hdj
                    rw [hb]
                    go_wp2
                    go_meet
                    case rel => exact ⟨rfl, rfl⟩
                  · have hb : decide (d = 1 ∧ j = 0) = false := decide_eq_false hdj
                    clear hA HA hdj
                    rw [hb]
                    go_wp2
                    go_meet
                    case rel => exact ⟨rfl, rfl⟩
                case rest =>
                  as_aux_lemma =>
                   obtain ⟨rfl, rfl⟩ := hcut
                   clear hA HA
                   have HA : ¬ (d = 1 ∧ j = 0 ∧ qOp (byteAt s i) = true) := HNA.out
                   by_cases h92 : c = 92
                   · obtain ⟨k', hk', HN⟩ := qInv_esc HI.out hlt HA (HC.out.symm.trans h92)
                     have HK := Lib.hid hk'
                     have HN' := Lib.hid HN
                     clear hk' HN HC HI HA HNA
                     subst h92
                     go_wp2
                     go_roundg k'
                     case measure => have := HK.out; omega
                     case rel => exact ⟨i + 2, j, d, v, by go_num, rfl, rfl, rfl, by omega, by omega, by omega, by omega, by omega, HN', rfl⟩
                   · have d92 : ((c : Int) == 92) = false := i_eq h92
                     by_cases hop : c = 91 ∨ c = 40
                     · obtain ⟨k', hk', HN⟩ := qInv_open HI.out hlt HA (by rw [← HC.out]; exact hop)
                       have HK := Lib.hid hk'
                       have HN' := Lib.hid HN
                       clear hk' HN HC HI HA HNA h92
                       rcases hop with rfl | rfl
                       all_goals
                         go_wp2
                         go_roundg k'
                         case measure => have := HK.out; omega
                         case rel => exact ⟨i + 1, j, d + 1, v, by go_num, rfl, rfl, by go_num, by omega, by omega, by omega, by omega, by omega, HN', rfl⟩
                     · have d91 : ((c : Int) == 91) = false := i_eq (fun h => hop (Or.inl h))
                       have d40 : ((c : Int) == 40) = false := i_eq (fun h => hop (Or.inr h))
                       by_cases hsh : c = 93 ∨ c = 41
                       · by_cases hd : d = 1
                         · subst hd
                           have HO := Lib.hid (qOut_shut HI.out hlt HA (by rw [← HC.out]; exact hsh))
                           clear HC HI HA HNA h92 hop
                           rcases hsh with rfl | rfl
                           all_goals
                             go_wp2
                             go_meet
                             case rel => exact ⟨i, j, 0, v, rfl, rfl, rfl, by go_num, by omega, by omega, by omega, HO, rfl⟩
                         · obtain ⟨d', rfl⟩ : ∃ d', d = d' + 2 := ⟨d - 2, by omega⟩
                           obtain ⟨k', hk', HN⟩ := qInv_shut HI.out hlt HA (by rw [← HC.out]; exact hsh) hd
                           have HK := Lib.hid hk'
                           have HN' : Hid (QInv s k' (i + 1) j (d' + 1) v) := Lib.hid HN
                           clear hk' HN HC HI HA HNA h92 hop hd
                           rcases hsh with rfl | rfl
                           all_goals
                             go_wp2
                             go_roundg k'
                             case measure => have := HK.out; omega
                             case rel => exact ⟨i + 1, j, d' + 1, v, by go_num, rfl, rfl, by go_num, by omega, by omega, by omega, by omega, by omega, HN', rfl⟩
                       · have d93 : ((c : Int) == 93) = false := i_eq (fun h => hsh (Or.inl h))
                         have d41 : ((c : Int) == 41) = false := i_eq (fun h => hsh (Or.inr h))
                         by_cases h34 : c = 34
                         · have HX : Hid (byteAt s i = 34) := Lib.hid (HC.out.symm.trans h34)
                           clear HC HA h92 hop hsh
                           subst h34
                           clear d92 d91 d40 d93 d41
                           go_wp2
                           go_loopg [6, 7] (s.size + 2) (fun k i' v' wr => ∃ (i2 : Nat) (v2 : Bool), i' = .int .i64 i2 ∧ v' = .bool v2 ∧ i + 1 ≤ i2 ∧ i2 ≤ s.size + 1 ∧ s.size + 3 ≤ k + i2 ∧ Hid (qStr s (s.size + 2) (i + 1) v = qStr s k i2 v2) ∧ wr = wc)
                           case atStart => exact ⟨i + 1, v, by go_num, rfl, by omega, by omega, by omega, Lib.hid rfl, rfl⟩
                           case round =>
                             obtain ⟨i2, v2, rfl, rfl, hi3, hi4, hk, HS, rfl⟩ := hrel
                             obtain ⟨m', hm'⟩ : ∃ m', gk = m' + 1 := ⟨gk - 1, by omega⟩
                             by_cases hlt2 : i2 < s.size
                             · obtain ⟨c2, hc2⟩ : ∃ c2, c2 = byteAt s i2 := ⟨_, rfl⟩
                               have ec2 : s[i2].toNat = c2 := (byteAt_eq hlt2).trans hc2.symm
                               by_cases g92 : c2 = 92
                               · have HS2 := Lib.hid (HS.out.trans (qStr_esc' hm' hlt2 (hc2.symm.trans g92)))
                                 subst g92
                                 have HM := Lib.hid hm'
                                 clear hc2 HS hm'
                                 go_wp2
                                 go_roundg m'
                                 case measure => have := HM.out; omega
                                 case rel => exact ⟨i2 + 2, true, by go_num, rfl, by omega, by omega, by have := HM.out; omega, HS2, rfl⟩
                               · have x92 : ((c2 : Int) == 92) = false := i_eq g92
                                 by_cases g34 : c2 = 34
                                 · have HS2 := Lib.hid (HS.out.trans (qStr_end' hm' hlt2 (hc2.symm.trans g34)))
                                   subst g34
                                   clear hc2 HS g92 hm'
                                   obtain ⟨k', hk', HN⟩ := qInv_str HI.out hlt HNA.out HX.out HS2.out hi3
                                   have HK := Lib.hid hk'
                                   have HN' := Lib.hid HN
                                   clear hk' HN HI HS2 HX HNA
                                   go_wp2
                                   go_roundg k'
                                   case measure => have := HK.out; omega
                                   case rel => exact ⟨i2 + 1, j, d, v2, by go_num, rfl, rfl, rfl, by omega, by omega, by omega, by omega, by omega, HN', rfl⟩
                                 · have x34 : ((c2 : Int) == 34) = false := i_eq g34
                                   have HS2 := Lib.hid (HS.out.trans (qStr_go' hm' hlt2 (by rw [← hc2]; exact g92) (by rw [← hc2]; exact g34)))
                                   have HM := Lib.hid hm'
                                   clear hc2 HS g92 g34 hm'
                                   go_wp2
                                   go_roundg m'
                                   case measure => have := HM.out; omega
                                   case rel => exact ⟨i2 + 1, v2, by go_num, rfl, by omega, by omega, by have := HM.out; omega, HS2, rfl⟩
                             · have HS2 := Lib.hid (HS.out.trans (qStr_stop hlt2))
                               clear HS hm'
                               obtain ⟨k', hk', HN⟩ := qInv_str HI.out hlt HNA.out HX.out HS2.out hi3
                               have HK := Lib.hid hk'
                               have HN' := Lib.hid HN
                               clear hk' HN HI HS2 HX HNA
                               go_wp2
                               go_roundg k'
                               case measure => have := HK.out; omega
                               case rel => exact ⟨i2 + 1, j, d, v2, by go_num, rfl, rfl, rfl, by omega, by omega, by omega, by omega, by omega, HN', rfl⟩
                         · have d34 : ((c : Int) == 34) = false := i_eq h34
                           obtain ⟨k', hk', HN⟩ := qInv_go HI.out hlt HA (by rw [← HC.out]; exact h92) (by rw [← HC.out]; exact hop) (by rw [← HC.out]; exact hsh) (by rw [← HC.out]; exact h34)
                           have HK := Lib.hid hk'
                           have HN' := Lib.hid HN
                           clear hk' HN HC HI HA HNA h92 hop hsh h34
                           go_wp2
                           go_roundg k'
                           case measure => have := HK.out; omega
                           case rel => exact ⟨i + 1, j, d, v, by go_num, rfl, rfl, rfl, by omega, by omega, by omega, by omega, by omega, HN', rfl⟩
          · have HO := Lib.hid (qOut_last HI.out hlt hi hd1)
            clear HI
            go_wp2
            go_meet
            case rel => exact ⟨i, j, d, v, rfl, rfl, rfl, rfl, by omega, by omega, by omega, HO, rfl⟩
     case rest =>
       as_aux_lemma =>
        obtain ⟨i, j, d, v, rfl, rfl, rfl, rfl, hi, hi2, hd, HO, rfl⟩ := hcut
        by_cases hd0 : 0 < d
        · have HE : Hid (qOf s = (⟨#[]⟩, ⟨#[]⟩, ⟨#[]⟩, ⟨#[]⟩, i, false, false)) := Lib.hid (by rw [HQ.out, HO.out.1]; unfold qEnd; rw [if_pos hd0])
          clear HQ HO
          go_wp2
          refine bodyPost_ret (results_list (rs := [.tmp 2, .tmp 3, .tmp 4, .tmp 5, .tmp 6, .tmp 7, .tmp 8]) rfl (by simp) (.tmp (.tmp (.tmp (.tmp (.tmp (.tmp (.tmp .nil)))))))) rfl ?_
          exact ⟨by rw [HE.out]; rfl, Below.refl _ _⟩
        · obtain rfl : d = 0 := by omega
          have hlt : i < s.size := (HO.out.2.1 rfl).1
          have HT : ∀ t : ByteArray, t.size ≤ 140737488351232 → Hid (∀ w, Calls Try.prog 57 #[.string t] w fun e w' => e = .returned (.string (trimS t)) ∧ w = w') := fun t ht => Lib.hid fun w => (trim_any t w ht).mono fun e w' h => ⟨h.1, h.2.symm⟩
          by_cases hj : 0 < j
          · skip
            obtain ⟨hj2, hji, hjs, hop⟩ := HO.out.2.2 hj
            obtain ⟨V, hV⟩ : ∃ V, V = trimS (s.extract j i) := ⟨_, rfl⟩
            have hej : (s.extract j i).size = i - j := by rw [ByteArray.size_extract]; omega
            have hV1 : 1 ≤ V.size ∧ V.size ≤ s.size := by
              rw [hV]
              exact ⟨trimS_ne (by omega) (by rw [ByteArray.getElem_extract]; intro h; have h3 : s[j].toNat ≤ 32 := UInt8.le_iff_toNat_le.1 h; rw [byteAt_eq hjs] at h3; unfold qOp at hop; simp at hop; omega), Nat.le_trans (trimS_le _) (by omega)⟩
            have hV2 := hV1.2
            have hV1 := hV1.1
            have HE : Hid (qOf s = (trimS (s.extract 2 j), (qSel V).1.extract 0 (qSel V).2, trimS ((qSel V).1.extract (qSel V).2 (qSel V).1.size), s.extract (i + 1) s.size, i + 1, v, true)) := Lib.hid (by rw [HQ.out, HO.out.1, hV]; unfold qEnd; rw [if_neg hd0, if_pos hj])
            have HT1 := HT (s.extract 2 j) (by rw [ByteArray.size_extract]; omega)
            have HT2 : Hid (∀ w, Calls Try.prog 57 #[.string (s.extract j i)] w fun e w' => e = .returned (.string V) ∧ w = w') := Lib.hid fun w => by rw [hV]; exact (HT (s.extract j i) (by omega)).out w
            clear HQ HO hd0 hop hV hej
            go_upto_region 34 with (fail)
            go_cut [2] (fun x wc' => x = .string (trimS (s.extract 2 j)) ∧ wc' = wc)
            case first =>
              as_aux_lemma =>
               go_wp2_with (go_at_call 57; refine (HT1.out _).mono ?_; rintro e w' ⟨rfl, rfl⟩)
               go_meet
               case rel => exact ⟨rfl, rfl⟩
            case rest =>
              as_aux_lemma =>
               obtain ⟨rfl, rfl⟩ := hcut
               go_upto_region 35 with (fail)
               go_cut [4] (fun x wc' => x = .string V ∧ wc' = wc)
               case first =>
                 as_aux_lemma =>
                  go_wp2_with (go_at_call 57; refine (HT2.out _).mono ?_; rintro e w' ⟨rfl, rfl⟩)
                  go_meet
                  case rel => exact ⟨rfl, rfl⟩
               case rest =>
                 as_aux_lemma =>
                  obtain ⟨rfl, rfl⟩ := hcut
                  clear HT1 HT2
                  go_upto_block 5 with (fail)
                  go_cut [4, 11] (fun x k wc' => ∃ (V' : ByteArray) (k' : Nat), x = .string V' ∧ k = .int .i64 k' ∧ Hid (qSel V = (V', k')) ∧ k' ≤ V'.size ∧ wc' = wc)
                  case first =>
                    as_aux_lemma =>
                     by_cases hv1 : V.size = 1
                     · have HS : Hid (qSel V = (V, 1)) := Lib.hid (by unfold qSel; rw [if_pos hv1])
                       have b1 : ((V.size : Int) == 1) = true := by rw [hv1]; rfl
                       clear hV1
                       go_wp2
                       go_meet
                       case rel => exact ⟨V, 1, rfl, by go_num, HS, by omega, rfl⟩
                     · have hv2 : 1 < V.size := by omega
                       have n1 : ((V.size : Int) == 1) = false := i_eq hv1
                       obtain ⟨x, hx⟩ : ∃ x, x = byteAt V 0 := ⟨_, rfl⟩
                       obtain ⟨y, hy⟩ : ∃ y, y = byteAt V 1 := ⟨_, rfl⟩
                       have ex : V[0].toNat = x := (byteAt_eq (show 0 < V.size by omega)).trans hx.symm
                       have ey : V[1].toNat = y := (byteAt_eq hv2).trans hy.symm
                       have HX : Hid (qSel V = qSelOf V x y) := Lib.hid (by unfold qSel qSelOf; rw [if_neg hv1, hx, hy])
                       clear hx hy
                       by_cases x33 : x = 33
                       · subst x33
                         by_cases y61 : y = 61
                         · have HS : Hid (qSel V = (V, 2)) := Lib.hid (HX.out.trans (by unfold qSelOf; simp [y61]))
                           subst y61
                           clear HX
                           go_wp2
                           go_meet
                           case rel => exact ⟨V, 2, rfl, by go_num, HS, by omega, rfl⟩
                         · have z61 : ((y : Int) == 61) = false := i_eq y61
                           by_cases y37 : y = 37
                           · have HS : Hid (qSel V = (V, 2)) := Lib.hid (HX.out.trans (by unfold qSelOf; simp [y37]))
                             subst y37
                             clear HX
                             go_wp2
                             go_meet
                             case rel => exact ⟨V, 2, rfl, by go_num, HS, by omega, rfl⟩
                           · have z37 : ((y : Int) == 37) = false := i_eq y37
                             have HS : Hid (qSel V = (V, 0)) := Lib.hid (HX.out.trans (by unfold qSelOf; simp [y61, y37]))
                             clear HX y61 y37
                             go_wp2
                             go_meet
                             case rel => exact ⟨V, 0, rfl, by go_num, HS, by omega, rfl⟩
                       · have w33 : ((x : Int) == 33) = false := i_eq x33
                         by_cases x60 : x = 60
                         · subst x60
                           by_cases y61 : y = 61
                           · have HS : Hid (qSel V = (V, 2)) := Lib.hid (HX.out.trans (by unfold qSelOf; simp [y61]))
                             subst y61
                             clear HX
                             go_wp2
                             go_meet
                             case rel => exact ⟨V, 2, rfl, by go_num, HS, by omega, rfl⟩
                           · have z61 : ((y : Int) == 61) = false := i_eq y61
                             have HS : Hid (qSel V = (V, 1)) := Lib.hid (HX.out.trans (by unfold qSelOf; simp [y61]))
                             clear HX y61
                             go_wp2
                             go_meet
                             case rel => exact ⟨V, 1, rfl, by go_num, HS, by omega, rfl⟩
                         · have w60 : ((x : Int) == 60) = false := i_eq x60
                           by_cases x62 : x = 62
                           · subst x62
                             by_cases y61 : y = 61
                             · have HS : Hid (qSel V = (V, 2)) := Lib.hid (HX.out.trans (by unfold qSelOf; simp [y61]))
                               subst y61
                               clear HX
                               go_wp2
                               go_meet
                               case rel => exact ⟨V, 2, rfl, by go_num, HS, by omega, rfl⟩
                             · have z61 : ((y : Int) == 61) = false := i_eq y61
                               have HS : Hid (qSel V = (V, 1)) := Lib.hid (HX.out.trans (by unfold qSelOf; simp [y61]))
                               clear HX y61
                               go_wp2
                               go_meet
                               case rel => exact ⟨V, 1, rfl, by go_num, HS, by omega, rfl⟩
                           · have w62 : ((x : Int) == 62) = false := i_eq x62
                             by_cases x61 : x = 61
                             · subst x61
                               by_cases y61 : y = 61
                               · have HS : Hid (qSel V = (V.extract 1 V.size, 1)) := Lib.hid (HX.out.trans (by unfold qSelOf; simp [y61]))
                                 have hes : (V.extract 1 V.size).size = V.size - 1 := by rw [ByteArray.size_extract]; omega
                                 have HES := Lib.hid hes
                                 subst y61
                                 clear HX hes
                                 go_wp2
                                 go_meet
                                 case rel => exact ⟨V.extract 1 V.size, 1, rfl, by go_num, HS, by have := HES.out; omega, rfl⟩
                               · have z61 : ((y : Int) == 61) = false := i_eq y61
                                 have HS : Hid (qSel V = (V, 1)) := Lib.hid (HX.out.trans (by unfold qSelOf; simp [y61]))
                                 clear HX y61
                                 go_wp2
                                 go_meet
                                 case rel => exact ⟨V, 1, rfl, by go_num, HS, by omega, rfl⟩
                             · have w61 : ((x : Int) == 61) = false := i_eq x61
                               by_cases x37 : x = 37
                               · have HS : Hid (qSel V = (V, 1)) := Lib.hid (HX.out.trans (by unfold qSelOf; simp [x37]))
                                 subst x37
                                 clear HX x33 x60 x62 x61
                                 go_wp2
                                 go_meet
                                 case rel => exact ⟨V, 1, rfl, by go_num, HS, by omega, rfl⟩
                               · have w37 : ((x : Int) == 37) = false := i_eq x37
                                 have HS : Hid (qSel V = (V, 0)) := Lib.hid (HX.out.trans (by unfold qSelOf; simp [x33, x60, x62, x61, x37]))
                                 clear HX x33 x60 x62 x61 x37
                                 go_wp2
                                 go_meet
                                 case rel => exact ⟨V, 0, rfl, by go_num, HS, by omega, rfl⟩
                  case rest =>
                    as_aux_lemma =>
                     obtain ⟨V', k', rfl, rfl, HS, hk', rfl⟩ := hcut
                     have HT3 := HT (V'.extract k' V'.size) (by have := qSel_le HS.out; rw [ByteArray.size_extract]; omega)
                     have HE2 : Hid (qOf s = (trimS (s.extract 2 j), V'.extract 0 k', trimS (V'.extract k' V'.size), s.extract (i + 1) s.size, i + 1, v, true)) := Lib.hid (by rw [HE.out, HS.out])
                     clear HE HT HS
                     go_wp2_with (go_at_call 57; refine (HT3.out _).mono ?_; rintro e w' ⟨rfl, rfl⟩)
                     refine bodyPost_ret (results_list (rs := [.tmp 2, .tmp 3, .tmp 4, .tmp 5, .tmp 6, .tmp 7, .tmp 8]) rfl (by simp) (.tmp (.tmp (.tmp (.tmp (.tmp (.tmp (.tmp .nil)))))))) rfl ?_
                     exact ⟨by rw [HE2.out]; rfl, Below.refl _ _⟩
          · obtain rfl : j = 0 := by omega
            have HE : Hid (qOf s = (trimS (s.extract 2 i), ⟨#[]⟩, ⟨#[]⟩, s.extract (i + 1) s.size, i + 1, v, true)) := Lib.hid (by rw [HQ.out, HO.out.1]; unfold qEnd; rw [if_neg hd0, if_neg hj])
            have HT1 := HT (s.extract 2 i) (by rw [ByteArray.size_extract]; omega)
            clear HQ HO HT hd0 hj
            go_wp2_with (go_at_call 57; refine (HT1.out _).mono ?_; rintro e w' ⟨rfl, rfl⟩)
            refine bodyPost_ret (results_list (rs := [.tmp 2, .tmp 3, .tmp 4, .tmp 5, .tmp 6, .tmp 7, .tmp 8]) rfl (by simp) (.tmp (.tmp (.tmp (.tmp (.tmp (.tmp (.tmp .nil)))))))) rfl ?_
            exact ⟨by rw [HE.out]; rfl, Below.refl _ _⟩

end Go.Proofs.Ytifcmhekpbfboaa
