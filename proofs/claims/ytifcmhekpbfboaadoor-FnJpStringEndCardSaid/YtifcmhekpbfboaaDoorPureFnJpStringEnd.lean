/- The pure statement of FnJpStringEnd: each backslash takes in the byte behind it; the first quotation mark that none takes in is the first one ahead of which an even number of backslashes stands. No condition beyond the statement's own. -/
import Derived.Test.YtifcmhekpbfboaaDoorMFnJpStringEnd1
namespace Go.Proofs.YtifcmhekpbfboaaDoor.Pure
open Go.RowKit Go.Proofs.YtifcmhekpbfboaaDoor.MFnJpStringEnd Go.Proofs.YtifcmhekpbfboaaDoorW.PrintWords Go.Proofs.YtifcmhekpbfboaaDoorW.PrintLast

theorem se_wrap {x : Int} (h0 : -9223372036854775808 ≤ x) (h : x ≤ 9223372036854775807) : wrap64 x = x := by unfold wrap64; omega
theorem se_nat {i : Nat} (h : i ≤ 2147483650) : wrap64 ((i : Int) + 1) = ((i + 1 : Nat) : Int) := by rw [se_wrap (by omega) (by omega)]; rfl
theorem se_get {s : ByteArray} {k : Nat} (h : k < s.size) : ∃ c : UInt8, s.data.toList[k]? = some c ∧ bt s (k : Int) = c.toNat := by
  refine ⟨s[k], ?_, ?_⟩
  · rw [List.getElem?_eq_getElem (by simpa using h)]; rfl
  · unfold bt
    rw [dif_pos (by simpa using h)]
    rfl
theorem u8_of {c : UInt8} {n : Nat} (hn : n < 256) (h : (c.toNat : Int) = n) : c = UInt8.ofNat n := by
  apply UInt8.toNat_inj.1
  rw [UInt8.toNat_ofNat_of_lt' (by simpa using hn)]
  omega

theorem se_loop (s : ByteArray) (hn : s.size ≤ 2147483647) : ∀ (d k i : Nat) (b : Bool), i ≤ s.size + 1 → s.size + 1 - i = d → d + 1 < k → runQ s.data.toList i % 2 = 0 → b = escQ s.data.toList i →
    (∀ j, j < i → closesQ 34 s.data.toList j = false) →
    ∃ r, laws_jpClose.l0 k s b (i : Int) = some r ∧ ((closeQ 34 s.data.toList = none ∧ r = (-1, false)) ∨ ∃ m, closeQ 34 s.data.toList = some m ∧ r = ((m : Int) + 1, escQ s.data.toList m)) := by
  have hl : s.data.toList.length = s.size := by simp
  generalize hL : s.data.toList = l at hl
  intro d
  induction d using Nat.strongRecOn with
  | ind d ih =>
    intro k i b hi hd hk hr hb hc
    obtain ⟨k, rfl⟩ : ∃ m, k = m + 1 := ⟨k - 1, by omega⟩
    simp only [laws_jpClose.l0]
    by_cases hlt : i < s.size
    · obtain ⟨c, hg, hbt⟩ := se_get hlt
      rw [hL] at hg
      have p0 : (i : Int) < (s.size : Int) := by omega
      have p1 : (0 : Int) ≤ (i : Int) := by omega
      rw [if_pos p0, if_pos p1, hbt, se_nat (i := i) (by omega), se_nat (i := i + 1) (by omega)]
      clear p0 p1 hbt
      by_cases h92 : (c.toNat : Int) = 92
      · rw [if_pos h92]
        have e := u8_of (n := 92) (by decide) h92
        have hg' : l[i]? = some 92 := by rw [hg, e]; rfl
        have hr1 : runQ l (i + 1) = runQ l i + 1 := by rw [runQ, if_pos hg']
        refine ih (s.size + 1 - (i + 2)) (by omega) k (i + 2) true (by omega) rfl (by omega) ?_ ?_ ?_
        · by_cases h2 : l[i + 1]? = some 92
          · rw [runQ, if_pos h2, hr1]; omega
          · rw [runQ, if_neg h2]
        · have e1 : escQ l (i + 1) = true := by rw [escQ_succ hg']; simp
          by_cases hlt2 : i + 1 < s.size
          · rw [escQ_succ (List.getElem?_eq_getElem (by omega)), e1]; rfl
          · have : l.take (i + 1 + 1) = l.take (i + 1) := by rw [List.take_of_length_le (by omega), List.take_of_length_le (by omega)]
            unfold escQ at e1 ⊢
            rw [this, e1]
        · intro j hj
          by_cases e1 : j = i
          · subst e1; exact closesQ_not (by rw [hg']; decide)
          · by_cases e2 : j = i + 1
            · subst e2; exact closesQ_odd (by rw [hr1]; omega)
            · exact hc j (by omega)
      · rw [if_neg h92]
        by_cases h34 : (c.toNat : Int) = 34
        · rw [if_pos h34]
          have e := u8_of (n := 34) (by decide) h34
          have hg' : l[i]? = some 34 := by rw [hg, e]; rfl
          exact ⟨_, rfl, .inr ⟨i, closeQ_some (by omega) (closesQ_yes hg' hr) hc, by rw [hb]; rfl⟩⟩
        · rw [if_neg h34]
          have n92 : c ≠ 92 := fun e => h92 (by rw [e]; rfl)
          have n34 : c ≠ 34 := fun e => h34 (by rw [e]; rfl)
          refine ih (s.size + 1 - (i + 1)) (by omega) k (i + 1) b (by omega) rfl (by omega) ?_ ?_ ?_
          · rw [runQ, if_neg (by rw [hg]; simpa using n92)]
          · rw [escQ_succ hg, ← hb]; simp [n92]
          · intro j hj
            by_cases e1 : j = i
            · subst e1; exact closesQ_not (by rw [hg]; simpa using n34)
            · exact hc j (by omega)
    · rw [if_neg (by omega)]
      exact ⟨_, rfl, .inl ⟨closeQ_none fun j hj => hc j (by omega), rfl⟩⟩

theorem FnJpStringEnd : laws_FnJpStringEnd.Pure := by
  intro s hs
  refine ⟨s.size + 3, ?_⟩
  unfold laws_FnJpStringEnd.f
  by_cases h1 : (s.size : Int) > 2147483647
  · rw [if_pos h1]
  · rw [if_neg h1]
    by_cases h2 : (s.size : Int) > 65536
    · rw [if_pos h2]
    · rw [if_neg h2]
      unfold impl_JpStringEnd.f laws_jpClose.f
      rw [if_pos hs]
      simp only [Option.bind_some]
      obtain ⟨r, hr, h⟩ := se_loop s (by omega) (s.size + 1) (s.size + 3) 0 false (by omega) (by omega) (by omega) rfl (by rw [escQ_zero]) (fun j hj => absurd hj (by omega))
      rw [show ((0 : Nat) : Int) = 0 from rfl] at hr
      rw [hr]
      simp only [Option.bind_some]
      unfold strEnd
      rcases h with ⟨hc, rfl⟩ | ⟨m, hc, rfl⟩
      · rw [hc]
        simp
      · rw [hc]
        simp only
        rw [if_pos (by omega), if_neg (by omega)]
        simp

end Go.Proofs.YtifcmhekpbfboaaDoor.Pure
