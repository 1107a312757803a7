/- The pure statement of FnFjRawKey: the law's own search for the closing quotation mark finds the place at which the inner reader stops. No condition beyond the statement's own. -/
import Derived.Test.YtifcmhekpbfboaaMFnFjRawKey1
namespace Go.Proofs.Ytifcmhekpbfboaa.Pure
open Go.RowKit Go.Proofs.Ytifcmhekpbfboaa.MFnFjRawKey Go.Proofs.YtifcmhekpbfboaaW.PrintWords Go.Proofs.YtifcmhekpbfboaaW.PrintLast

def closeI (s : ByteArray) : Int := match closeL s.data.toList with | some q => (q : Int) | none => -1

theorem rk_wrap {x : Int} (h0 : 0 ≤ x) (h : x ≤ 9223372036854775807) : wrap64 x = x := by unfold wrap64; omega

theorem rk_bt {s : ByteArray} {i : Nat} (h : i < s.size) (c : Nat) (hc : c < 256) : bt s (i : Int) = (c : Int) ↔ s.data.toList[i]? = some (UInt8.ofNat c) := by
  rw [rk_get h]
  unfold bt
  rw [dif_pos (by simpa using h)]
  simp only [Int.toNat_natCast, Option.some.injEq]
  constructor
  · intro e
    apply UInt8.toNat_inj.1
    rw [UInt8.toNat_ofNat_of_lt' (by simpa using hc)]
    omega
  · intro e
    rw [e, UInt8.toNat_ofNat_of_lt' (by simpa using hc)]

theorem rk_closing (s : ByteArray) (hn : s.size ≤ 4000) : ∀ (d k : Nat) (i : Nat), i ≤ s.size → s.size - i = d → 2 * d < k → (∀ j, j < i → closesB s.data.toList j = false) →
    spec_Closing.l0 k s (runB s.data.toList i : Int) (i : Int) = some (closeI s) := by
  have hl := rk_len s
  intro d
  induction d with
  | zero =>
    intro k i h1 hd hk hb
    obtain ⟨k, rfl⟩ : ∃ m, k = m + 1 := ⟨k - 1, by omega⟩
    simp only [spec_Closing.l0]
    rw [if_neg (by omega)]
    unfold closeI
    rw [closeL_none fun j hj => hb j (by omega)]
  | succ d ih =>
    intro k i h1 hd hk hb
    obtain ⟨k, rfl⟩ : ∃ m, k = m + 2 := ⟨k - 2, by omega⟩
    have hlt : i < s.size := by omega
    have w1 : wrap64 ((i : Int) + 1) = ((i + 1 : Nat) : Int) := rk_wrap (by omega) (by omega)
    have hrb : runB s.data.toList i ≤ i := by
      clear hb hlt w1 hd h1
      induction i with
      | zero => exact Nat.le_refl _
      | succ i ih2 => unfold runB; split <;> omega
    have w2 : wrap64 ((runB s.data.toList i : Int) + 1) = ((runB s.data.toList i + 1 : Nat) : Int) := rk_wrap (by omega) (by omega)
    have next : closesB s.data.toList i = false → ∀ b, b = false → spec_Closing.j1 (k + 1) s (runB s.data.toList i : Int) (i : Int) b = some (closeI s) := by
      intro hc b hb'
      subst hb'
      simp only [spec_Closing.j1]
      rw [if_neg (by simp), if_pos (by omega), if_pos (by omega), w1]
      have hb2 : ∀ j, j < i + 1 → closesB s.data.toList j = false := fun j hj => by
        by_cases e : j = i
        · rw [e]; exact hc
        · exact hb j (by omega)
      have hih := ih k (i + 1) (by omega) (by omega) (by omega) hb2
      by_cases c2 : bt s (i : Int) = 92
      · rw [if_pos c2, w2]
        rw [show runB s.data.toList (i + 1) = runB s.data.toList i + 1 by
          have : s.data.toList[i]? = some 92 := (rk_bt hlt 92 (by decide)).1 c2
          show (if s.data.toList[i]? = some 92 then _ else _) = _
          rw [if_pos this]] at hih
        exact hih
      · rw [if_neg c2]
        rw [show runB s.data.toList (i + 1) = 0 by
          have : ¬ s.data.toList[i]? = some 92 := fun h => c2 ((rk_bt hlt 92 (by decide)).2 h)
          show (if s.data.toList[i]? = some 92 then _ else _) = _
          rw [if_neg this]] at hih
        exact hih
    rw [show k + 2 = (k + 1) + 1 from rfl]
    generalize hk1 : k + 1 = k1 at next
    simp only [spec_Closing.l0]
    rw [if_pos (by omega), if_pos (by omega)]
    by_cases c : bt s (i : Int) = 34
    · rw [if_pos c]
      have hq := (rk_bt hlt 34 (by decide)).1 c
      have et : Int.tmod (runB s.data.toList i : Int) 2 = ((runB s.data.toList i % 2 : Nat) : Int) := by
        rw [Int.tmod_eq_emod_of_nonneg (by omega)]; omega
      rw [et]
      by_cases hp : runB s.data.toList i % 2 = 0
      · have hcl := closeL_some (by omega) (closes_yes hq hp) hb
        rw [hp]
        have : (((0 : Nat) : Int) == 0) = true := rfl
        rw [this, ← hk1]
        simp only [spec_Closing.j1]
        unfold closeI
        rw [hcl]
        rfl
      · exact next (closes_odd (by omega)) _ (by simp only [beq_eq_false_iff_ne]; omega)
    · rw [if_neg c]
      exact next (closes_not fun h => c ((rk_bt hlt 34 (by decide)).2 h)) _ rfl

theorem FnFjRawKey : laws_FnFjRawKey.Pure := by
  intro s _
  by_cases hn : s.size ≤ 4000
  · refine ⟨2 * s.size + 1, ?_⟩
    have hl := rk_len s
    have h1 : spec_Closing.f (2 * s.size + 1) s = some (closeI s) := by
      unfold spec_Closing.f
      exact rk_closing s hn s.size (2 * s.size + 1) 0 (by omega) (by omega) (by omega) (fun j hj => absurd hj (by omega))
    have h2 : impl_FjRawKey.f s = some (rawKeyOf s) := by unfold impl_FjRawKey.f; rw [if_pos (by omega)]
    have h3 : impl_FjRawKey.f (⟨#[34]⟩ : ByteArray) = some ((⟨#[34]⟩ : ByteArray).extract 0 0, (⟨#[34]⟩ : ByteArray).extract (0 + 1) 1, true) := by
      unfold impl_FjRawKey.f
      rw [if_pos (by decide)]
      unfold rawKeyOf
      have : closeL (⟨#[34]⟩ : ByteArray).data.toList = some 0 := by decide
      rw [this]
      rfl
    unfold laws_FnFjRawKey.f
    rw [if_neg (by omega), if_neg (by omega), h1, h2, h3]
    simp only [Option.bind_some]
    rw [if_pos trivial]
    unfold rawKeyOf closeI
    cases hc : closeL s.data.toList with
    | none => simp
    | some q =>
      obtain ⟨hq, _, _⟩ := closeL_of hc
      have w1 : wrap64 ((q : Int) + 1) = ((q + 1 : Nat) : Int) := rk_wrap (by omega) (by omega)
      simp only [w1]
      rw [if_pos (by simp), if_pos trivial, if_pos (by omega), if_pos (by omega), if_pos (by simp), if_pos (by omega), if_pos (by omega)]
      simp
  · refine ⟨0, ?_⟩
    unfold laws_FnFjRawKey.f
    by_cases h : (s.size : Int) > 2147483647
    · rw [if_pos h]
    · rw [if_neg h, if_pos (by omega)]

end Go.Proofs.Ytifcmhekpbfboaa.Pure
