/- match's inner function comes to an end, whatever the texts; what it tells with a limit it tells with a greater one, if it was not stopped. No condition. -/
import Derived.Test.YtifcmhekpbfboaaDoorMtLim
import Derived.Test.YtifcmhekpbfboaaDoorDecPlain
namespace Go.Proofs.YtifcmhekpbfboaaDoor
open Go.RowKit Go.Lib Go.Proofs.YtifcmhekpbfboaaDoorW.PrintWords Go.Proofs.YtifcmhekpbfboaaDoorW.PrintLast Go.Proofs.YtifcmhekpbfboaaDoor.MmatchmatchTrimSuffix

/-! ### A greater limit -/
def SubO (a b : Option (Int × Int)) : Prop := ∀ r c, a = some (r, c) → r ≠ 2 → b = some (r, c)
theorem SubO.refl (a : Option (Int × Int)) : SubO a a := fun _ _ h _ => h
theorem SubO.ite {p : Prop} [Decidable p] {a a' b b' : Option (Int × Int)} (h : SubO a a') (k : SubO b b') : SubO (if p then a else b) (if p then a' else b') := by
  split
  · exact h
  · exact k
theorem SubO.bind {α : Type} {a : Option α} {f g : α → Option (Int × Int)} (h : ∀ x, SubO (f x) (g x)) : SubO (a.bind f) (a.bind g) := by
  intro r c hr h2
  obtain ⟨x, hx, hf⟩ := Option.bind_eq_some_iff.1 hr
  rw [hx]
  exact h x r c hf h2
theorem SubO.rounds {a b : Option (Int × Int)} {f g : Int × Int → Option (Int × Int)} (h : SubO a b) (hf : ∀ x, x.1 = 2 → f x = some x) (hfg : ∀ x, SubO (f x) (g x)) : SubO (a.bind f) (b.bind g) := by
  intro r c hr h2
  obtain ⟨x, hx, hfx⟩ := Option.bind_eq_some_iff.1 hr
  by_cases e : x.1 = 2
  · rw [hf x e] at hfx
    obtain rfl := Option.some.inj hfx
    exact absurd e h2
  · rw [h x.1 x.2 hx e]
    exact hfg x r c hfx h2
theorem SubO.lim {L L' c : Int} {a b : Option (Int × Int)} (hL : L ≤ L') (h : SubO a b) : SubO (if L < c then some (2, c) else a) (if L' < c then some (2, c) else b) := by
  intro r d hr h2
  split at hr
  · simp only [Option.some.injEq, Prod.mk.injEq] at hr
    exact absurd hr.1.symm h2
  · rw [if_neg (by omega)]
    exact h r d hr h2

theorem mloop_more {L L' : Int} (hL : L ≤ L') : ∀ (k : Nat) (s p : ByteArray) (c : Int), SubO (mloop k L s p c) (mloop k L' s p c)
  | 0, s, p, c => fun r d h => by simp [mloop] at h
  | k + 1, s, p, c => by
    have ih := mloop_more hL k
    unfold mloop
    repeat' first
      | (with_reducible exact ih _ _ _)
      | (with_reducible exact SubO.refl _)
      | (with_reducible refine SubO.lim hL ?_)
      | (with_reducible refine SubO.ite ?_ ?_)
      | (with_reducible refine SubO.bind (fun _ => ?_))
      | (with_reducible refine SubO.rounds ?_ (fun x hx => by rw [if_neg (by omega)]) (fun _ => ?_))

theorem mfun_more {L L' : Int} (hL : L ≤ L') (k : Nat) (s p : ByteArray) (c : Int) : SubO (mfun k L s p c) (mfun k L' s p c) := by
  unfold mfun
  exact SubO.ite (SubO.lim hL (mloop_more hL _ _ _ _)) (SubO.refl _)

/-! ### The ends of a text -/
theorem go_decL {s : ByteArray} (h : s.size ≠ 0) : decodeGo s = decodeL s.data.toList := by
  unfold decodeGo decodeL
  rw [if_neg h]
theorem size_list (s : ByteArray) : s.data.toList.length = s.size := by simp
theorem bt_bn {s : ByteArray} {i : Nat} (h : i < s.size) : bt s (i : Int) = (bn s.data.toList i : Nat) := by
  unfold bt bn
  rw [dif_pos (by simpa using h), List.getD_eq_getElem?_getD, List.getElem?_eq_getElem (by simpa using h)]
  rfl
theorem hd2_le {s : ByteArray} (h : s.size ≠ 0) : 1 ≤ hd2 s ∧ hd2 s ≤ s.size := by
  unfold hd2
  rw [go_decL h]
  refine ⟨decodeL_width _, ?_⟩
  rw [decL, size_list]
  exact dn_le _ _ _ _ _ (by omega)
theorem hd1_42 {s : ByteArray} (h : s.size ≠ 0) (e : hd1 s = 42) : bn s.data.toList 0 = 42 := by
  unfold hd1 at e
  rw [go_decL h, decL] at e
  exact dn_42 _ _ _ _ _ e
theorem ssz_le (s : ByteArray) : ssz s ≤ s.size ∧ (s.size ≠ 0 → 1 ≤ ssz s ∧ ssz s = (decodeL s.data.toList).2) := by
  unfold ssz
  split
  · exact ⟨by omega, fun h => absurd ‹_› h⟩
  · rename_i h
    have := hd2_le h
    refine ⟨this.2, fun _ => ⟨this.1, ?_⟩⟩
    unfold hd2
    rw [go_decL h]

/-! ### Stars -/
theorem tail_list (s : ByteArray) (a : Nat) : (s.extract a s.size).data.toList = s.data.toList.drop a := Lib.extract_to_end s a
theorem head_list (s : ByteArray) (b : Nat) : (s.extract 0 b).data.toList = s.data.toList.take b := by
  rw [Lib.extract_data]
  simp

theorem skip_ev : ∀ (n : Nat) (p : ByteArray), p.size ≤ n → p.size ≠ 0 → bn p.data.toList 0 = 42 →
    ∃ q, Ev (fun k => skipS k p) q ∧ q.size ≤ p.size ∧ q.size ≠ 0 ∧ bn q.data.toList 0 = 42 := by
  intro n
  induction n with
  | zero => intro p h h0; omega
  | succ n ih =>
    intro p h h0 h42
    by_cases h1 : 1 < p.size
    · by_cases e : p[1] = 42
      · have hs : (p.extract 1 p.size).size = p.size - 1 := by rw [ByteArray.size_extract]; omega
        obtain ⟨q, hq, h2, h3, h4⟩ := ih (p.extract 1 p.size) (by omega) (by omega) (by
          rw [tail_list]
          unfold bn
          rw [List.getD_eq_getElem?_getD, List.getElem?_drop, List.getElem?_eq_getElem (by simpa using h1)]
          have : (p.data.toList)[1 + 0]'(by simpa using h1) = p[1] := rfl
          rw [this, e]
          rfl)
        refine ⟨q, Ev.step (f := fun k => skipS k (p.extract 1 p.size)) (fun k => ?_) hq, by omega, h3, h4⟩
        simp only [skipS]
        rw [dif_pos h1, if_pos e]
      · refine ⟨p, Ev.step (f := fun _ => some p) (fun k => ?_) (Ev.now _), Nat.le_refl _, h0, h42⟩
        simp only [skipS]
        rw [dif_pos h1, if_neg e]
    · refine ⟨p, Ev.step (f := fun _ => some p) (fun k => ?_) (Ev.now _), Nat.le_refl _, h0, h42⟩
      simp only [skipS]
      rw [dif_neg h1]

/-! ### What the end of the pattern fits -/
theorem tr_wrap {x : Int} (h0 : -9223372036854775808 ≤ x) (h : x ≤ 9223372036854775807) : wrap64 x = x := by unfold wrap64; omega
theorem bits_zero : Go.bits .and .i64 0 1 = 0 := by decide

/-- The backslashes ahead of the pattern's last rune are counted, down to the star at the latest. -/
theorem trim_scan (x0 x1 : ByteArray) (x9 : Bool) (x10 : Int) (d : Nat) (hn : x1.size ≤ 1000000) (h42 : bt x1 0 = 42) (hd : d + 1 ≤ x1.size) : ∀ (q i : Nat), q + d + i + 1 = x1.size →
    ∃ (d' : Nat) (esc : Bool), d ≤ d' ∧ d' + 1 ≤ x1.size ∧ ∀ R, Ev (fun k => match_matchTrimSuffix.j3 k x0 x1 false x9 x10 (d' : Int) esc) R → Ev (fun k => match_matchTrimSuffix.l1 k x0 x1 false x9 x10 (d : Int) false (i : Int)) R := by
  intro q
  induction q with
  | zero =>
    intro i hq
    have e : wrap64 (wrap64 (wrap64 ((x1.size : Int) - (d : Int)) - (i : Int)) - 1) = 0 := by
      rw [tr_wrap (x := (x1.size : Int) - (d : Int)) (by omega) (by omega), tr_wrap (x := (x1.size : Int) - (d : Int) - (i : Int)) (by omega) (by omega), tr_wrap (by omega) (by omega)]
      omega
    have p1 : (0 : Int) < (x1.size : Int) := by omega
    have n1 : ¬ bt x1 0 = 92 := by rw [h42]; decide
    by_cases hb : Go.bits .and .i64 (i : Int) 1 = 1
    · have hi : i ≠ 0 := fun z => by rw [z] at hb; rw [show ((0 : Nat) : Int) = 0 from rfl, bits_zero] at hb; simp at hb
      have w1 : wrap64 ((d : Int) + 1) = ((d + 1 : Nat) : Int) := by rw [tr_wrap (by omega) (by omega)]; rfl
      refine ⟨d + 1, true, by omega, by omega, fun R hR => Ev.step (fun k => ?_) hR⟩
      simp only [match_matchTrimSuffix.l1]
      rw [e, if_pos (Int.le_refl _), if_pos p1, if_neg n1, if_pos hb, w1]
    · refine ⟨d, false, by omega, by omega, fun R hR => Ev.step (fun k => ?_) hR⟩
      simp only [match_matchTrimSuffix.l1]
      rw [e, if_pos (Int.le_refl _), if_pos p1, if_neg n1, if_neg hb]
  | succ q ih =>
    intro i hq
    have e : wrap64 (wrap64 (wrap64 ((x1.size : Int) - (d : Int)) - (i : Int)) - 1) = ((q + 1 : Nat) : Int) := by
      rw [tr_wrap (x := (x1.size : Int) - (d : Int)) (by omega) (by omega), tr_wrap (x := (x1.size : Int) - (d : Int) - (i : Int)) (by omega) (by omega), tr_wrap (by omega) (by omega)]
      omega
    have p0 : (0 : Int) ≤ ((q + 1 : Nat) : Int) := by omega
    have p1 : ((q + 1 : Nat) : Int) < (x1.size : Int) := by omega
    by_cases h92 : bt x1 ((q + 1 : Nat) : Int) = 92
    · obtain ⟨d', esc, h1, h2, h3⟩ := ih (i + 1) (by omega)
      have w1 : wrap64 ((i : Int) + 1) = ((i + 1 : Nat) : Int) := by rw [tr_wrap (by omega) (by omega)]; rfl
      refine ⟨d', esc, h1, h2, fun R hR => Ev.step (fun k => ?_) (h3 R hR)⟩
      simp only [match_matchTrimSuffix.l1]
      rw [e, if_pos p0, if_pos p1, if_pos h92, w1]
    · by_cases hb : Go.bits .and .i64 (i : Int) 1 = 1
      · have w1 : wrap64 ((d : Int) + 1) = ((d + 1 : Nat) : Int) := by rw [tr_wrap (by omega) (by omega)]; rfl
        refine ⟨d + 1, true, by omega, by omega, fun R hR => Ev.step (fun k => ?_) hR⟩
        simp only [match_matchTrimSuffix.l1]
        rw [e, if_pos p0, if_pos p1, if_neg h92, if_pos hb, w1]
      · refine ⟨d, false, by omega, by omega, fun R hR => Ev.step (fun k => ?_) hR⟩
        simp only [match_matchTrimSuffix.l1]
        rw [e, if_pos p0, if_pos p1, if_neg h92, if_neg hb]

/-- What the text may be cut to: nothing, or no less than its first rune. -/
def Cut (l : List UInt8) (x : ByteArray) : Prop := ∃ j, j ≤ l.length ∧ x.data.toList = l.take j ∧ (j = 0 ∨ (decodeL l).2 ≤ j)
theorem Cut.size {l : List UInt8} {x : ByteArray} (h : Cut l x) : x.size ≤ l.length ∧ (x.size = 0 ∨ (decodeL l).2 ≤ x.size) := by
  obtain ⟨j, h1, h2, h3⟩ := h
  have : x.size = j := by rw [← size_list, h2, List.length_take]; omega
  rw [this]
  exact ⟨h1, h3⟩
theorem Cut.last {l : List UInt8} {x : ByteArray} (h : Cut l x) (hx : x.size ≠ 0) : (decodeLastL x.data.toList).2 ≤ x.size ∧ Cut l (x.extract 0 (x.size - (decodeLastL x.data.toList).2)) := by
  obtain ⟨j, h1, h2, h3⟩ := h
  have hs : x.size = j := by rw [← size_list, h2, List.length_take]; omega
  have hw := decodeLastL_width x.data.toList (by rw [size_list]; omega)
  rw [size_list] at hw
  refine ⟨hw.2, x.size - (decodeLastL x.data.toList).2, by omega, ?_, ?_⟩
  · rw [head_list, h2, List.take_take]
    congr 1
    omega
  · have := last_keeps l j h1 (by omega) (by omega)
    rw [h2, hs]
    omega

theorem trim_ev (l : List UInt8) : ∀ (n : Nat) (x0 x1 : ByteArray) (x9 : Bool), x1.size ≤ n → x1.size ≤ 1000000 → x0.size ≤ 1000000 → x1.size ≠ 0 → bn x1.data.toList 0 = 42 → Cut l x0 →
    ∃ s2 p2 ok, Ev (fun k => match_matchTrimSuffix.l0 k x0 x1 false x9) (s2, p2, ok) ∧ Cut l s2 ∧ s2.size ≤ x0.size ∧ p2.size ≤ x1.size ∧ p2.size ≠ 0 := by
  intro n
  induction n with
  | zero => intro x0 x1 x9 h _ _ h0; omega
  | succ n ih =>
    intro x0 x1 x9 hn h1b h0b h0 h42 hC
    by_cases hx0 : x0.size = 0
    · refine ⟨x0, x1, x9, ?_, hC, Nat.le_refl _, Nat.le_refl _, h0⟩
      refine Ev.step (f := fun k => match_matchTrimSuffix.j1 k x0 x1 false x9 false) (fun k => ?_) (Ev.step (f := fun _ => some (x0, x1, x9)) (fun k => ?_) (Ev.now _))
      · simp only [match_matchTrimSuffix.l0]
        rw [if_neg (by omega)]
      · simp only [match_matchTrimSuffix.j1]
        rw [if_neg (by simp)]
    · by_cases hx1 : x1.size = 1
      · refine ⟨x0, x1, x9, ?_, hC, Nat.le_refl _, Nat.le_refl _, h0⟩
        refine Ev.step (f := fun k => match_matchTrimSuffix.j1 k x0 x1 false x9 false) (fun k => ?_) (Ev.step (f := fun _ => some (x0, x1, x9)) (fun k => ?_) (Ev.now _))
        · simp only [match_matchTrimSuffix.l0]
          rw [if_pos (by omega), decide_eq_false (by omega)]
        · simp only [match_matchTrimSuffix.j1]
          rw [if_neg (by simp)]
      · have h42' : bt x1 0 = 42 := by
          have := bt_bn (s := x1) (i := 0) (by omega)
          rw [h42] at this
          exact this
        have hls := last_star x1.data.toList (by rw [size_list]; omega) h42
        rw [size_list] at hls
        obtain ⟨dl, hdl⟩ : ∃ dl, dl = (decodeLastL x1.data.toList).2 := ⟨_, rfl⟩
        obtain ⟨pc, hpc⟩ : ∃ pc : Nat, pc = (decodeLastL x1.data.toList).1 := ⟨_, rfl⟩
        rw [← hdl] at hls
        obtain ⟨d', esc, hd1, hd2, hscan⟩ := trim_scan x0 x1 x9 (pc : Int) dl h1b h42' (by omega) (x1.size - dl - 1) 0 (by omega)
        have hlast := hC.last hx0
        obtain ⟨e, he⟩ : ∃ e, e = (decodeLastL x0.data.toList).2 := ⟨_, rfl⟩
        obtain ⟨sc, hsc⟩ : ∃ sc : Nat, sc = (decodeLastL x0.data.toList).1 := ⟨_, rfl⟩
        rw [← he] at hlast
        have z1 : (x1.extract 0 (x1.size - d')).size = x1.size - d' := by rw [ByteArray.size_extract]; omega
        have z0 : (x0.extract 0 (x0.size - e)).size ≤ x0.size := by rw [ByteArray.size_extract]; omega
        obtain ⟨s2, p2, ok, hE, hC2, hs2, hp2, hp0⟩ := ih (x0.extract 0 (x0.size - e)) (x1.extract 0 (x1.size - d')) x9 (by omega) (by omega) (by omega) (by omega)
          (by rw [head_list, bn_take (by omega)]; exact h42) hlast.2
        have wd : wrap64 ((x1.size : Int) - (d' : Int)) = ((x1.size - d' : Nat) : Int) := by rw [tr_wrap (by omega) (by omega)]; omega
        have we : wrap64 ((x0.size : Int) - (e : Int)) = ((x0.size - e : Nat) : Int) := by rw [tr_wrap (by omega) (by omega)]; omega
        have g1 : (0 : Int) ≤ ((x0.size - e : Nat) : Int) := by omega
        have g2 : ((x0.size - e : Nat) : Int) ≤ (x0.size : Int) := by omega
        have g3 : (0 : Int) ≤ ((x1.size - d' : Nat) : Int) := by omega
        have g4 : ((x1.size - d' : Nat) : Int) ≤ (x1.size : Int) := by omega
        have f1 : utf8_DecodeLastRuneInString.f x1 = some ((pc : Int), (dl : Int)) := by
          unfold utf8_DecodeLastRuneInString.f
          rw [if_pos (by omega), hpc, hdl]
        have f0 : utf8_DecodeLastRuneInString.f x0 = some ((sc : Int), (e : Int)) := by
          unfold utf8_DecodeLastRuneInString.f
          rw [if_pos (by omega), hsc, he]
        -- from j4 on
        have J4 : ∀ x51 : Bool, ∃ s2 p2 ok, Ev (fun k => match_matchTrimSuffix.j4 k x0 x1 false x9 (pc : Int) (d' : Int) esc x51) (s2, p2, ok) ∧ Cut l s2 ∧ s2.size ≤ x0.size ∧ p2.size ≤ x1.size ∧ p2.size ≠ 0 := by
          intro x51
          cases x51 with
          | true =>
            refine ⟨x0, x1, true, Ev.step (f := fun _ => some (x0, x1, true)) (fun k => ?_) (Ev.now _), hC, Nat.le_refl _, Nat.le_refl _, h0⟩
            simp only [match_matchTrimSuffix.j4]
            rw [if_pos trivial]
          | false =>
            have stop : (∀ k, match_matchTrimSuffix.j4 (k + 1) x0 x1 false x9 (pc : Int) (d' : Int) esc false = some (x0, x1, false)) → ∃ s2 p2 ok, Ev (fun k => match_matchTrimSuffix.j4 k x0 x1 false x9 (pc : Int) (d' : Int) esc false) (s2, p2, ok) ∧ Cut l s2 ∧ s2.size ≤ x0.size ∧ p2.size ≤ x1.size ∧ p2.size ≠ 0 :=
              fun h => ⟨x0, x1, false, Ev.step (f := fun _ => some (x0, x1, false)) h (Ev.now _), hC, Nat.le_refl _, Nat.le_refl _, h0⟩
            have goon : (∀ k, match_matchTrimSuffix.j4 (k + 1) x0 x1 false x9 (pc : Int) (d' : Int) esc false = match_matchTrimSuffix.l0 k (x0.extract 0 (x0.size - e)) (x1.extract 0 (x1.size - d')) false x9) → ∃ s2 p2 ok, Ev (fun k => match_matchTrimSuffix.j4 k x0 x1 false x9 (pc : Int) (d' : Int) esc false) (s2, p2, ok) ∧ Cut l s2 ∧ s2.size ≤ x0.size ∧ p2.size ≤ x1.size ∧ p2.size ≠ 0 :=
              fun h => ⟨s2, p2, ok, Ev.step h hE, hC2, by omega, by omega, hp0⟩
            by_cases h63 : (pc : Int) = 63
            · cases esc with
              | true =>
                by_cases hq : (pc : Int) = (sc : Int)
                · refine goon fun k => ?_
                  simp only [match_matchTrimSuffix.j4]
                  rw [if_neg (by simp), f0]
                  simp only [Option.bind_some]
                  rw [if_neg (by simp), if_pos h63, if_pos trivial, if_pos hq, we, wd, if_pos g1, if_pos g2, if_pos g3, if_pos g4]
                  rfl
                · refine stop fun k => ?_
                  simp only [match_matchTrimSuffix.j4]
                  rw [if_neg (by simp), f0]
                  simp only [Option.bind_some]
                  rw [if_neg (by simp), if_pos h63, if_pos trivial, if_neg hq]
              | false =>
                refine goon fun k => ?_
                simp only [match_matchTrimSuffix.j4]
                rw [if_neg (by simp), f0]
                simp only [Option.bind_some]
                rw [if_neg (by simp), if_pos h63, if_neg (by simp), we, wd, if_pos g1, if_pos g2, if_pos g3, if_pos g4]
                rfl
            · by_cases hq : (pc : Int) = (sc : Int)
              · refine goon fun k => ?_
                simp only [match_matchTrimSuffix.j4]
                rw [if_neg (by simp), f0]
                simp only [Option.bind_some]
                rw [if_neg (by simp), if_neg h63, if_pos hq, we, wd, if_pos g1, if_pos g2, if_pos g3, if_pos g4]
                rfl
              · refine stop fun k => ?_
                simp only [match_matchTrimSuffix.j4]
                rw [if_neg (by simp), f0]
                simp only [Option.bind_some]
                rw [if_neg (by simp), if_neg h63, if_neg hq]
        have J3 : ∃ s2 p2 ok, Ev (fun k => match_matchTrimSuffix.j3 k x0 x1 false x9 (pc : Int) (d' : Int) esc) (s2, p2, ok) ∧ Cut l s2 ∧ s2.size ≤ x0.size ∧ p2.size ≤ x1.size ∧ p2.size ≠ 0 := by
          by_cases h42p : (pc : Int) = 42
          · obtain ⟨a, b, c, hE', hr⟩ := J4 (!esc)
            refine ⟨a, b, c, Ev.step (fun k => ?_) hE', hr⟩
            simp only [match_matchTrimSuffix.j3]
            rw [if_pos h42p]
          · obtain ⟨a, b, c, hE', hr⟩ := J4 false
            refine ⟨a, b, c, Ev.step (fun k => ?_) hE', hr⟩
            simp only [match_matchTrimSuffix.j3]
            rw [if_neg h42p]
        obtain ⟨a, b, c, hE', hr⟩ := J3
        refine ⟨a, b, c, ?_, hr⟩
        refine Ev.step (f := fun k => match_matchTrimSuffix.j1 k x0 x1 false x9 true) (fun k => ?_) (Ev.step (fun k => ?_) (hscan _ hE'))
        · simp only [match_matchTrimSuffix.l0]
          rw [if_pos (by omega), decide_eq_true (by omega)]
        · simp only [match_matchTrimSuffix.j1]
          rw [if_pos trivial, f1]
          rfl

end Go.Proofs.YtifcmhekpbfboaaDoor
