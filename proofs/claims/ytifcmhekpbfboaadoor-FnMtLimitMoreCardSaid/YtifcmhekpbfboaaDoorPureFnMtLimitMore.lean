/- The pure statement of FnMtLimitMore: with a greater limit the match tells what it tells with the lesser one, if that one did not stop it; a star alone matches. No condition beyond the statement's own. -/
import Derived.Test.YtifcmhekpbfboaaDoorMtTot
import Derived.Test.YtifcmhekpbfboaaDoorMFnMtLimitMore1
namespace Go.Proofs.YtifcmhekpbfboaaDoor.Pure
open Go.RowKit Go.Lib Go.Proofs.YtifcmhekpbfboaaDoorW.PrintWords Go.Proofs.YtifcmhekpbfboaaDoorW.PrintLast Go.Proofs.YtifcmhekpbfboaaDoor.MmatchmatchTrimSuffix Go.Proofs.YtifcmhekpbfboaaDoor.MFnMtLimitMore Go.Proofs.YtifcmhekpbfboaaDoor

/-- What stands behind the second bind: the inner answer, and the text one character further on. -/
def m42c (k : Nat) (L : Int) (s : ByteArray) (s2 p2 : ByteArray) (rc : Int × Int) : Option (Int × Int) :=
  if rc.1 = 0 then (if s2.size = 0 then some (0, rc.2) else if ssz s ≤ s2.size then mloop k L (s2.extract (ssz s) s2.size) p2 rc.2 else none) else some rc
def m42b (k : Nat) (L : Int) (s p : ByteArray) (c : Int) (p1 : ByteArray) (t : ByteArray × ByteArray × Bool) : Option (Int × Int) :=
  if t.2.2 = true then
    (if t.2.1.size = 1 then some (1, c) else if ¬ (1 < t.2.1.size ∧ t.1.size ≤ s.size ∧ t.2.1.size ≤ p1.size ∧ p1.size ≤ p.size) then none else
      (if 0 ≤ c then (if L < c then some (2, c) else mloop k L t.1 (t.2.1.extract 1 t.2.1.size) (c + 1)) else none).bind (m42c k L s t.1 t.2.1))
  else some (0, c)
def m42 (k : Nat) (L : Int) (s p : ByteArray) (c : Int) (p1 : ByteArray) : Option (Int × Int) :=
  if p1.size = 1 then some (1, c) else (match_matchTrimSuffix.f k s p1 false).bind (m42b k L s p c p1)
theorem mloop_42 {p : ByteArray} (hp0 : ¬ p.size = 0) (h63 : ¬ hd1 p = 63) (h42 : hd1 p = 42) (k : Nat) (L : Int) (s : ByteArray) (c : Int) : mloop (k + 1) L s p c = (skipS k p).bind (m42 k L s p c) := by
  simp only [mloop]
  rw [if_neg hp0, if_neg h63, if_pos h42]
  rfl

theorem cut_all (s : ByteArray) : Cut s.data.toList s := by
  refine ⟨s.data.toList.length, Nat.le_refl _, by rw [List.take_length], ?_⟩
  rw [size_list]
  by_cases h : s.size = 0
  · exact .inl h
  · have := ssz_le s
    have := this.2 h
    exact .inr (by omega)

theorem mloop_ev (L : Int) : ∀ (n : Nat) (s p : ByteArray) (c : Int), s.size + p.size ≤ n → s.size ≤ 1000000 → p.size ≤ 1000000 → 0 ≤ c →
    ∃ r d, Ev (fun k => mloop k L s p c) (r, d) ∧ c ≤ d := by
  intro n
  induction n using Nat.strongRecOn with
  | ind n ih =>
    intro s p c hn hs hp hc
    by_cases hp0 : p.size = 0
    · refine ⟨_, c, Ev.step (f := fun _ => some ((if s.size = 0 then 1 else 0), c)) (fun k => ?_) (Ev.now _), Int.le_refl _⟩
      simp only [mloop]
      rw [if_pos hp0]
    · have hps := hd2_le hp0
      have hss := ssz_le s
      have stop : (∀ k, mloop (k + 1) L s p c = some (0, c)) → ∃ r d, Ev (fun k => mloop k L s p c) (r, d) ∧ c ≤ d := fun h => ⟨0, c, Ev.step (f := fun _ => some (0, c)) h (Ev.now _), Int.le_refl _⟩
      have adv : ∀ q : ByteArray, q.size ≤ p.size → 1 ≤ hd2 q → ssz s ≠ 0 →
          (∀ k, mloop (k + 1) L s p c = mloop k L (s.extract (ssz s) s.size) (q.extract (hd2 q) q.size) c) → ∃ r d, Ev (fun k => mloop k L s p c) (r, d) ∧ c ≤ d := by
        intro q hq h1 hz h
        obtain ⟨r, d, hE, hd⟩ := ih (n - 1) (by omega) (s.extract (ssz s) s.size) (q.extract (hd2 q) q.size) c (by rw [ByteArray.size_extract, ByteArray.size_extract]; omega) (by rw [ByteArray.size_extract]; omega) (by rw [ByteArray.size_extract]; omega) hc
        exact ⟨r, d, Ev.step h hE, hd⟩
      by_cases h63 : hd1 p = 63
      · by_cases hz : ssz s = 0
        · exact stop fun k => by simp only [mloop]; rw [if_neg hp0, if_pos h63, if_pos hz]
        · exact adv p (Nat.le_refl _) hps.1 hz fun k => by simp only [mloop]; rw [if_neg hp0, if_pos h63, if_neg hz, if_pos hss.1, if_pos hps.2]
      · by_cases h42 : hd1 p = 42
        · obtain ⟨pe, hpe, h1, h2, h3⟩ := skip_ev p.size p (Nat.le_refl _) hp0 (hd1_42 hp0 h42)
          have done : ∀ r d, Ev (fun k => m42 k L s p c pe) (r, d) → c ≤ d → ∃ r d, Ev (fun k => mloop k L s p c) (r, d) ∧ c ≤ d := fun r d hE hd =>
            ⟨r, d, Ev.step (fun k => mloop_42 hp0 h63 h42 k L s c) (Ev.bind (f := fun k => m42 k L s p c) hpe hE), hd⟩
          by_cases he1 : pe.size = 1
          · exact done 1 c (Ev.congr (f := fun _ => some (1, c)) (fun k => by unfold m42; rw [if_pos he1]) (Ev.now _)) (Int.le_refl _)
          · obtain ⟨s2, p2, ok, hE, hC, hs2, hp2, hp20⟩ := trim_ev s.data.toList pe.size s pe true (Nat.le_refl _) (by omega) hs h2 h3 (cut_all s)
            have done2 : ∀ r d, Ev (fun k => m42b k L s p c pe (s2, p2, ok)) (r, d) → c ≤ d → ∃ r d, Ev (fun k => mloop k L s p c) (r, d) ∧ c ≤ d := fun r d hE2 hd =>
              done r d (Ev.congr (f := fun k => (match_matchTrimSuffix.f k s pe false).bind (m42b k L s p c pe)) (fun k => by unfold m42; rw [if_neg he1]) (Ev.bind (f := fun k => m42b k L s p c pe) hE hE2)) hd
            cases ok with
            | false => exact done2 0 c (Ev.congr (f := fun _ => some (0, c)) (fun k => by unfold m42b; rw [if_neg (by simp)]) (Ev.now _)) (Int.le_refl _)
            | true =>
              by_cases hp1 : p2.size = 1
              · exact done2 1 c (Ev.congr (f := fun _ => some (1, c)) (fun k => by unfold m42b; rw [if_pos rfl, if_pos hp1]) (Ev.now _)) (Int.le_refl _)
              · have hg : ¬ ¬ (1 < p2.size ∧ s2.size ≤ s.size ∧ p2.size ≤ pe.size ∧ pe.size ≤ p.size) := fun h => h ⟨by omega, hs2, hp2, h1⟩
                have inner : ∃ r1 d1, Ev (fun k => if 0 ≤ c then (if L < c then some (2, c) else mloop k L s2 (p2.extract 1 p2.size) (c + 1)) else none) (r1, d1) ∧ c ≤ d1 := by
                  by_cases hL : L < c
                  · exact ⟨2, c, Ev.congr (f := fun _ => some (2, c)) (fun k => by rw [if_pos hc, if_pos hL]) (Ev.now _), Int.le_refl _⟩
                  · obtain ⟨r1, d1, hE1, hd1⟩ := ih (n - 1) (by omega) s2 (p2.extract 1 p2.size) (c + 1) (by rw [ByteArray.size_extract]; omega) (by omega) (by rw [ByteArray.size_extract]; omega) (by omega)
                    exact ⟨r1, d1, Ev.congr (fun k => by rw [if_pos hc, if_neg hL]) hE1, by omega⟩
                obtain ⟨r1, d1, hE1, hd1⟩ := inner
                have done3 : ∀ r d, Ev (fun k => m42c k L s s2 p2 (r1, d1)) (r, d) → c ≤ d → ∃ r d, Ev (fun k => mloop k L s p c) (r, d) ∧ c ≤ d := fun r d hE3 hd =>
                  done2 r d (Ev.congr (f := fun k => (if 0 ≤ c then (if L < c then some (2, c) else mloop k L s2 (p2.extract 1 p2.size) (c + 1)) else none).bind (m42c k L s s2 p2))
                    (fun k => by unfold m42b; rw [if_pos rfl, if_neg hp1, if_neg hg]) (Ev.bind (f := fun k => m42c k L s s2 p2) hE1 hE3)) hd
                by_cases hr : r1 = 0
                · by_cases hs20 : s2.size = 0
                  · exact done3 0 d1 (Ev.congr (f := fun _ => some (0, d1)) (fun k => by unfold m42c; rw [if_pos hr, if_pos hs20]) (Ev.now _)) hd1
                  · have hw := hC.size.2
                    have hsn := hss.2 (by omega)
                    have hle : ssz s ≤ s2.size := by omega
                    obtain ⟨r, d, hE4, hd4⟩ := ih (n - 1) (by omega) (s2.extract (ssz s) s2.size) p2 d1 (by rw [ByteArray.size_extract]; omega) (by rw [ByteArray.size_extract]; omega) (by omega) (by omega)
                    exact done3 r d (Ev.congr (fun k => by unfold m42c; rw [if_pos hr, if_neg hs20, if_pos hle]) hE4) (by omega)
                · exact done3 r1 d1 (Ev.congr (f := fun _ => some (r1, d1)) (fun k => by unfold m42c; rw [if_neg hr]) (Ev.now _)) hd1
        · by_cases hz : ssz s = 0
          · exact stop fun k => by simp only [mloop]; rw [if_neg hp0, if_neg h63, if_neg h42, if_pos hz]
          · by_cases h92 : hd1 p = 92
            · have hql : (p.extract (hd2 p) p.size).size ≤ p.size := by rw [ByteArray.size_extract]; omega
              by_cases hz2 : hd2 (p.extract (hd2 p) p.size) = 0
              · exact stop fun k => by simp only [mloop]; rw [if_neg hp0, if_neg h63, if_neg h42, if_neg hz, if_pos h92, if_pos hps.2, if_pos hz2]
              · by_cases he : scz s = hd1 (p.extract (hd2 p) p.size)
                · have hq2 : hd2 (p.extract (hd2 p) p.size) ≤ (p.extract (hd2 p) p.size).size := by
                    by_cases e0 : (p.extract (hd2 p) p.size).size = 0
                    · exfalso
                      apply hz2
                      unfold hd2 decodeGo
                      unfold hd2 decodeGo at e0
                      rw [if_pos e0]
                    · exact (hd2_le e0).2
                  exact adv (p.extract (hd2 p) p.size) hql (by omega) hz fun k => by
                    simp only [mloop]; rw [if_neg hp0, if_neg h63, if_neg h42, if_neg hz, if_pos h92, if_pos hps.2, if_neg hz2, if_pos he, if_pos hss.1, if_pos hq2]
                · exact stop fun k => by simp only [mloop]; rw [if_neg hp0, if_neg h63, if_neg h42, if_neg hz, if_pos h92, if_pos hps.2, if_neg hz2, if_neg he]
            · by_cases he : scz s = hd1 p
              · exact adv p (Nat.le_refl _) hps.1 hz fun k => by simp only [mloop]; rw [if_neg hp0, if_neg h63, if_neg h42, if_neg hz, if_neg h92, if_pos he, if_pos hss.1, if_pos hps.2]
              · exact stop fun k => by simp only [mloop]; rw [if_neg hp0, if_neg h63, if_neg h42, if_neg hz, if_neg h92, if_neg he]

theorem limit_ev (s p : ByteArray) (m : Int) (hs : s.size ≤ 4096) (hp : p.size ≤ 4096) (h0 : 0 ≤ m) (h1 : m ≤ 1000000) (hp42 : p ≠ ⟨#[42]⟩) :
    ∃ K r c, (∀ k, K ≤ k → mfun k ((s.size : Int) * m) s p 0 = some (r, c)) ∧ ∀ k, K ≤ k → impl_MtLimit.f k s p m = some (if r = 2 then (false, true) else (r == 1, false)) := by
  have hm0 : (0 : Int) ≤ (s.size : Int) * m := Int.mul_nonneg (by omega) h0
  obtain ⟨r, d, ⟨K, hE⟩, -⟩ := mloop_ev ((s.size : Int) * m) (s.size + p.size) s p (0 + 1) (Nat.le_refl _) (by omega) (by omega) (by omega)
  have hf : ∀ k, K ≤ k → mfun k ((s.size : Int) * m) s p 0 = some (r, d) := fun k hk => by
    unfold mfun
    rw [if_pos (Int.le_refl _), if_neg (by omega)]
    exact hE k hk
  refine ⟨K, r, d, hf, fun k hk => ?_⟩
  unfold impl_MtLimit.f match_MatchLimit.f match_matchLimit0.f
  rw [if_neg hp42, if_pos ⟨by omega, by omega, h0, by omega, rfl⟩, hf k hk]
  simp

theorem FnMtLimitMore : laws_FnMtLimitMore.Pure := by
  intro s p lim more hs hp hl1 hl2
  by_cases hz : (s.size : Int) > 2147483647
  · refine ⟨1, ?_⟩
    unfold laws_FnMtLimitMore.f
    rw [if_pos hz]
    simp only [laws_FnMtLimitMore.j0]
    rfl
  · by_cases hz2 : (p.size : Int) > 2147483647
    · refine ⟨1, ?_⟩
      unfold laws_FnMtLimitMore.f
      rw [if_neg hz, decide_eq_true hz2]
      simp only [laws_FnMtLimitMore.j0]
      rfl
    · have start : ∀ k, laws_FnMtLimitMore.f k s p lim more = laws_FnMtLimitMore.j0 k s p lim more false := fun k => by
        unfold laws_FnMtLimitMore.f
        rw [if_neg hz, decide_eq_false hz2]
      have out : (∀ k, laws_FnMtLimitMore.j0 (k + 1) s p lim more false = laws_FnMtLimitMore.j1 k s p lim more true) → ∃ k, laws_FnMtLimitMore.f k s p lim more = some true := fun h => by
        refine ⟨2, ?_⟩
        rw [start, h]
        simp only [laws_FnMtLimitMore.j1]
        rfl
      by_cases c1 : (s.size : Int) > 4096
      · exact out fun k => by simp only [laws_FnMtLimitMore.j0]; rw [if_neg (by simp), if_pos c1]
      by_cases c2 : (p.size : Int) > 4096
      · exact out fun k => by simp only [laws_FnMtLimitMore.j0]; rw [if_neg (by simp), if_neg c1, if_pos c2]
      by_cases c3 : lim < 0
      · exact out fun k => by simp only [laws_FnMtLimitMore.j0]; rw [if_neg (by simp), if_neg c1, if_neg c2, if_pos c3]
      by_cases c4 : more < 0
      · exact out fun k => by simp only [laws_FnMtLimitMore.j0]; rw [if_neg (by simp), if_neg c1, if_neg c2, if_neg c3, if_pos c4]
      by_cases c5 : lim > 1000000
      · exact out fun k => by simp only [laws_FnMtLimitMore.j0]; rw [if_neg (by simp), if_neg c1, if_neg c2, if_neg c3, if_neg c4, if_pos c5]
      have w1 : wrap64 (1000000 - lim) = 1000000 - lim := tr_wrap (by omega) (by omega)
      by_cases c6 : more > 1000000 - lim
      · exact out fun k => by simp only [laws_FnMtLimitMore.j0]; rw [if_neg (by simp), if_neg c1, if_neg c2, if_neg c3, if_neg c4, if_neg c5, w1, decide_eq_true c6]
      have w2 : wrap64 (lim + more) = lim + more := tr_wrap (by omega) (by omega)
      have star : ∀ k m, impl_MtLimit.f k s (⟨#[42]⟩ : ByteArray) m = some (true, false) := fun k m => by
        unfold impl_MtLimit.f match_MatchLimit.f match_matchLimit0.f
        rw [if_pos rfl]
        rfl
      have step : ∀ k, laws_FnMtLimitMore.f (k + 2) s p lim more = (impl_MtLimit.f k s p lim).bind fun a => ((impl_MtLimit.f k s p (lim + more)).bind fun b => if a.2 = true then some true else if b.2 = true then some false else some (a.1 == b.1)) := fun k => by
        rw [start]
        simp only [laws_FnMtLimitMore.j0]
        rw [if_neg (by simp), if_neg c1, if_neg c2, if_neg c3, if_neg c4, if_neg c5, w1, decide_eq_false c6]
        simp only [laws_FnMtLimitMore.j1]
        rw [if_neg (by simp), star, w2]
        simp
      by_cases hp42 : p = ⟨#[42]⟩
      · refine ⟨2, ?_⟩
        rw [step, hp42, star, star]
        simp
      · obtain ⟨K1, r1, d1, hf1, h1⟩ := limit_ev s p lim (by omega) (by omega) (by omega) (by omega) hp42
        obtain ⟨K2, r2, d2, hf2, h2⟩ := limit_ev s p (lim + more) (by omega) (by omega) (by omega) (by omega) hp42
        refine ⟨max K1 K2 + 2, ?_⟩
        have hle : (s.size : Int) * lim ≤ (s.size : Int) * (lim + more) := Int.mul_le_mul_of_nonneg_left (by omega) (by omega)
        have k1 : K1 ≤ max K1 K2 := Nat.le_max_left _ _
        have k2 : K2 ≤ max K1 K2 := Nat.le_max_right _ _
        rw [step, h1 _ k1, h2 _ k2]
        simp only [Option.bind_some]
        by_cases e : r1 = 2
        · rw [if_pos e]
          simp
        · have hsub := mfun_more hle (max K1 K2) s p 0 r1 d1 (hf1 _ k1) e
          rw [hf2 _ k2] at hsub
          simp only [Option.some.injEq, Prod.mk.injEq] at hsub
          obtain ⟨rfl, rfl⟩ := hsub
          rw [if_neg e]
          simp

end Go.Proofs.YtifcmhekpbfboaaDoor.Pure
