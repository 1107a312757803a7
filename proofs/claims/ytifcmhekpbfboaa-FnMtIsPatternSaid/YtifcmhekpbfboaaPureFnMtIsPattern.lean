/- The pure statement of FnMtIsPattern: where a term of the pattern is a star or a question mark, such a byte stands in the text, and the search for such a byte tells it.
   Conditions: none beyond the statement's own. -/
import Derived.Test.YtifcmhekpbfboaaMFnMtIsPattern4
namespace Go.Proofs.Ytifcmhekpbfboaa.Pure
open Go.RowKit Go.Proofs.Ytifcmhekpbfboaa.MFnMtIsPattern Go.Proofs.YtifcmhekpbfboaaW.PrintWords Go.Proofs.YtifcmhekpbfboaaW.PrintLast

theorem mp_wrap {x : Int} (h0 : -9223372036854775808 ≤ x) (h : x ≤ 9223372036854775807) : wrap64 x = x := by unfold wrap64; omega

theorem mp_high (c : Int) : ∃ b, spec_high.f c = some b := by unfold spec_high.f; split <;> exact ⟨_, rfl⟩
theorem mp_low (c : Int) : ∃ b, spec_low.f c = some b := by unfold spec_low.f; split <;> exact ⟨_, rfl⟩

/-- The rounds over a character's later bytes. -/
theorem mp_loop (s : ByteArray) (hn : s.size ≤ 2147483647) (i x8 x9 : Int) (hi : 0 ≤ i) (h8 : 1 ≤ x8) (h83 : x8 ≤ 3) (h8n : i + x8 < s.size) : ∀ (d k : Nat) (x7 x10 : Int), 1 ≤ x10 → x10 ≤ x8 + 1 → x8 + 1 - x10 = d → d < k →
    ∃ c z ok, spec_Character.l0 k s i x7 x8 x9 x10 = some (c, z, ok) ∧ (ok = true → x9 ≤ c ∧ z = x8 + 1) := by
  intro d
  induction d with
  | zero =>
    intro k x7 x10 a b hd hk
    obtain ⟨k, rfl⟩ : ∃ m, k = m + 1 := ⟨k - 1, by omega⟩
    simp only [spec_Character.l0]
    rw [if_neg (by omega)]
    obtain ⟨b1, hb1⟩ := mp_high x7
    obtain ⟨b2, hb2⟩ := mp_low x7
    rw [hb1, hb2]
    simp only [Option.bind_some]
    have w1 : wrap64 (x8 + 1) = x8 + 1 := mp_wrap (by omega) (by omega)
    by_cases c1 : x7 < x9
    · rw [if_pos c1]; exact ⟨_, _, _, rfl, by simp⟩
    · rw [if_neg c1]
      split
      · exact ⟨_, _, _, rfl, by simp⟩
      · split
        · exact ⟨_, _, _, rfl, by simp⟩
        · split
          · exact ⟨_, _, _, rfl, by simp⟩
          · exact ⟨_, _, _, rfl, fun _ => ⟨by omega, w1⟩⟩
  | succ d ih =>
    intro k x7 x10 a b hd hk
    obtain ⟨k, rfl⟩ : ∃ m, k = m + 1 := ⟨k - 1, by omega⟩
    simp only [spec_Character.l0]
    have w1 : wrap64 (i + x10) = i + x10 := mp_wrap (by omega) (by omega)
    have w2 : wrap64 (x10 + 1) = x10 + 1 := mp_wrap (by omega) (by omega)
    rw [if_pos (by omega), w1, if_pos (by omega), if_pos (by omega), w2]
    split
    · exact ⟨_, _, _, rfl, by simp⟩
    · split
      · exact ⟨_, _, _, rfl, by simp⟩
      · exact ih k _ _ (by omega) (by omega) (by omega) (by omega)

theorem mp_j2 (s : ByteArray) (hn : s.size ≤ 2147483647) (i x7 x8 x9 : Int) (hi : 0 ≤ i) (hin : i < s.size) (h8 : 1 ≤ x8) (h83 : x8 ≤ 3) (h9 : 128 ≤ x9) (k : Nat) (hk : 5 ≤ k) :
    ∃ c z ok, spec_Character.j2 k s i x7 x8 x9 = some (c, z, ok) ∧ (ok = true → 128 ≤ c ∧ 1 ≤ z ∧ i + z ≤ s.size) := by
  obtain ⟨k, rfl⟩ : ∃ m, k = m + 1 := ⟨k - 1, by omega⟩
  simp only [spec_Character.j2]
  have w1 : wrap64 ((s.size : Int) - i) = (s.size : Int) - i := mp_wrap (by omega) (by omega)
  rw [w1]
  by_cases c : (s.size : Int) - i ≤ x8
  · rw [if_pos c]; exact ⟨_, _, _, rfl, by simp⟩
  · rw [if_neg c]
    obtain ⟨c', z, ok, hr, h⟩ := mp_loop s hn i x8 x9 hi h8 h83 (by omega) x8.toNat k x7 1 (by omega) (by omega) (by omega) (by omega)
    exact ⟨c', z, ok, hr, fun ho => by have := h ho; omega⟩

theorem mp_char (s : ByteArray) (hn : s.size ≤ 2147483647) (i : Int) (hi : 0 ≤ i) (hin : i < s.size) (k : Nat) (hk : 7 ≤ k) :
    ∃ c z ok, spec_Character.f k s i = some (c, z, ok) ∧ (ok = true → 1 ≤ z ∧ i + z ≤ s.size ∧ (c < 128 → c = bt s i)) := by
  obtain ⟨k, rfl⟩ : ∃ m, k = m + 1 := ⟨k - 1, by omega⟩
  have hb := bt_range s i
  have w0 : wrap64 (bt s i) = bt s i := mp_wrap (by omega) (by omega)
  unfold spec_Character.f
  rw [if_pos hi, if_pos hin, w0]
  by_cases c1 : bt s i < 128
  · rw [if_pos c1]; exact ⟨_, _, _, rfl, fun _ => ⟨by omega, by omega, fun _ => rfl⟩⟩
  · rw [if_neg c1]
    have go : ∀ b, ∃ c z ok, spec_Character.j0 (k + 1) s i (bt s i) b = some (c, z, ok) ∧ (ok = true → 1 ≤ z ∧ i + z ≤ s.size ∧ (c < 128 → c = bt s i)) := by
      intro b
      simp only [spec_Character.j0]
      obtain ⟨k, rfl⟩ : ∃ m, k = m + 1 := ⟨k - 1, by omega⟩
      have go1 : ∀ b, ∃ c z ok, spec_Character.j1 (k + 1) s i (bt s i) b = some (c, z, ok) ∧ (ok = true → 1 ≤ z ∧ i + z ≤ s.size ∧ (c < 128 → c = bt s i)) := by
        intro b
        simp only [spec_Character.j1]
        split
        · obtain ⟨c', z, ok, hr, h⟩ := mp_j2 s hn i (wrap64 (bt s i - 224)) 2 2048 hi hin (by omega) (by omega) (by omega) k (by omega)
          exact ⟨c', z, ok, hr, fun ho => by have := h ho; omega⟩
        · split
          · split
            · obtain ⟨c', z, ok, hr, h⟩ := mp_j2 s hn i (wrap64 (bt s i - 240)) 3 65536 hi hin (by omega) (by omega) (by omega) k (by omega)
              exact ⟨c', z, ok, hr, fun ho => by have := h ho; omega⟩
            · exact ⟨_, _, _, rfl, by simp⟩
          · exact ⟨_, _, _, rfl, by simp⟩
      split
      · obtain ⟨c', z, ok, hr, h⟩ := mp_j2 s hn i (wrap64 (bt s i - 192)) 1 128 hi hin (by omega) (by omega) (by omega) (k + 1) (by omega)
        exact ⟨c', z, ok, hr, fun ho => by have := h ho; omega⟩
      · split
        · exact go1 _
        · exact go1 _
    split
    · exact go _
    · exact go _

def Wild (s : ByteArray) : Prop := ∃ j : Int, 0 ≤ j ∧ j < s.size ∧ (bt s j = 42 ∨ bt s j = 63)
def Tells (s : ByteArray) (T : List S28) : Prop := ∀ t ∈ T, (t.f0 = true ∨ t.f1 = true) → Wild s

theorem tells_snoc {s : ByteArray} {T : List S28} {t : S28} (h : Tells s T) (ht : (t.f0 = true ∨ t.f1 = true) → Wild s) : Tells s (T ++ [t]) := by
  intro x hx hw
  rcases List.mem_append.1 hx with h1 | h1
  · exact h x h1 hw
  · rw [List.mem_singleton.1 h1] at hw; exact ht hw

theorem mp_globs (s : ByteArray) (hn : s.size ≤ 2147483647) : ∀ (d k : Nat) (i : Int) (acc : List S28), 0 ≤ i → i ≤ s.size → (s.size : Int) - i = d → d + 8 ≤ k → (acc.length : Int) ≤ i → Tells s acc →
    ∃ T ok, spec_Globs.l0 k s acc i = some (T, ok) ∧ Tells s T ∧ (T.length : Int) ≤ s.size := by
  intro d
  induction d using Nat.strongRecOn with
  | ind d ih =>
    intro k i acc h0 h1 hd hk ha hT
    obtain ⟨k, rfl⟩ : ∃ m, k = m + 1 := ⟨k - 1, by omega⟩
    simp only [spec_Globs.l0]
    by_cases hlt : i < (s.size : Int)
    · rw [if_pos hlt]
      obtain ⟨c, z, ok, hr, hz⟩ := mp_char s hn i h0 hlt k (by omega)
      rw [hr]
      simp only [Option.bind_some]
      cases ok with
      | false => exact ⟨[], false, by simp, by intro t ht; simp at ht, by simp⟩
      | true =>
        obtain ⟨z1, z2, z3⟩ := hz rfl
        rw [if_pos rfl]
        have w1 : wrap64 (i + z) = i + z := mp_wrap (by omega) (by omega)
        rw [w1]
        have next : ∀ t : S28, ((t.f0 = true ∨ t.f1 = true) → Wild s) → ∃ T ok, spec_Globs.l0 k s (acc ++ [t]) (i + z) = some (T, ok) ∧ Tells s T ∧ (T.length : Int) ≤ s.size := by
          intro t ht
          exact ih ((s.size : Int) - (i + z)).toNat (by omega) k (i + z) (acc ++ [t]) (by omega) (by omega) (by omega) (by omega) (by simp; omega) (tells_snoc hT ht)
        by_cases c1 : c = 42
        · rw [if_pos c1, if_pos (by omega)]
          exact next _ fun _ => ⟨i, h0, hlt, Or.inl (by have := z3 (by omega); omega)⟩
        · rw [if_neg c1]
          by_cases c2 : c = 63
          · rw [if_pos c2, if_pos (by omega)]
            exact next _ fun _ => ⟨i, h0, hlt, Or.inr (by have := z3 (by omega); omega)⟩
          · rw [if_neg c2]
            by_cases c3 : c = 92
            · rw [if_pos c3]
              by_cases e : i + z = (s.size : Int)
              · rw [if_pos e]; exact ⟨[], false, rfl, by intro t ht; simp at ht, by simp⟩
              · rw [if_neg e]
                obtain ⟨c', z', ok', hr', hz'⟩ := mp_char s hn (i + z) (by omega) (by omega) k (by omega)
                rw [hr']
                simp only [Option.bind_some]
                cases ok' with
                | false => exact ⟨[], false, by simp, by intro t ht; simp at ht, by simp⟩
                | true =>
                  obtain ⟨y1, y2, y3⟩ := hz' rfl
                  have w2 : wrap64 (i + z + z') = i + z + z' := mp_wrap (by omega) (by omega)
                  rw [if_pos rfl, if_pos (by omega), w2]
                  exact ih ((s.size : Int) - (i + z + z')).toNat (by omega) k (i + z + z') _ (by omega) (by omega) (by omega) (by omega) (by simp; omega) (tells_snoc hT (by simp))
            · rw [if_neg c3, if_pos (by omega)]
              exact next _ (by simp)
    · rw [if_neg hlt]
      exact ⟨acc, true, rfl, hT, by omega⟩

theorem mp_fits1 (x16 : List S28) (x17 x18 : Int) (K : Nat) (next : ∀ x8 : List Bool, x8.length = 1 → ∃ b, spec_Fits.l0 K [] x8 x16 x17 (wrap64 (x18 + 1)) = some b) (x5 x8 : List Bool) (h5 : x5.length = 1) (h8 : x8.length = 1) (a b : Bool) (c : Int) :
    ∃ r, spec_Fits.l1 (K + 2) [] x5 x8 0 x16 x17 x18 a b c = some r := by
  have w1 : wrap64 (0 + 1) = 1 := by unfold wrap64; omega
  have last : ∀ x8 : List Bool, x8.length = 1 → ∃ r, spec_Fits.l1 (K + 1) [] x5 x8 1 x16 x17 x18 a b c = some r := by
    intro x8 h8
    simp only [spec_Fits.l1]
    rw [if_neg (by simp)]
    exact next x8 h8
  rw [show K + 2 = (K + 1) + 1 from rfl]
  generalize K + 1 = K1 at last
  simp only [spec_Fits.l1]
  rw [if_pos (by simp)]
  split
  · rw [if_pos (by omega), if_pos (by omega)]
    split
    · rw [if_pos (by omega), w1]
      exact last _ (by simpa using h8)
    · rw [if_neg (by omega), if_pos (by omega), w1]
      exact last _ (by simpa using h8)
  · rw [if_neg (by omega), w1]
    exact last _ h8

theorem mp_fits (x16 : List S28) (hl : (x16.length : Int) ≤ 2147483647) : ∀ (d k : Nat) (x5 : List Bool) (x18 : Int), 0 ≤ x18 → x18 ≤ x16.length → (x16.length : Int) - x18 = d → 3 * d < k → x5.length = 1 →
    ∃ b, spec_Fits.l0 k [] x5 x16 (x16.length : Int) x18 = some b := by
  intro d
  induction d with
  | zero =>
    intro k x5 x18 h0 h1 hd hk h5
    obtain ⟨k, rfl⟩ : ∃ m, k = m + 1 := ⟨k - 1, by omega⟩
    simp only [spec_Fits.l0]
    rw [if_neg (by omega), if_pos (by simp), if_pos (by simp [h5])]
    exact ⟨_, rfl⟩
  | succ d ih =>
    intro k x5 x18 h0 h1 hd hk h5
    obtain ⟨k, rfl⟩ : ∃ m, k = m + 3 := ⟨k - 3, by omega⟩
    rw [show k + 3 = (k + 2) + 1 from rfl]
    have w1 : wrap64 ((([] : List Int).length : Int) + 1) = 1 := by unfold wrap64; simp
    have w2 : wrap64 (x18 + 1) = x18 + 1 := mp_wrap (by omega) (by omega)
    have key := mp_fits1 x16 (x16.length : Int) x18 k (fun x8 h8 => by rw [w2]; exact ih k x8 (x18 + 1) (by omega) (by omega) (by omega) (by omega) h8)
    generalize k + 2 = K at key
    simp only [spec_Fits.l0]
    rw [if_pos (by omega), if_pos (by omega), if_pos (by omega), w1, if_pos (by omega), if_pos (by decide)]
    exact key _ _ h5 (by simp) _ _ _

theorem mp_is (s : ByteArray) (hn : s.size ≤ 2147483647) : ∀ (d k : Nat) (i : Int), 0 ≤ i → i ≤ s.size → (s.size : Int) - i = d → d < k →
    ∃ b, match_IsPattern.l0 k s i = some b ∧ (b = true ↔ ∃ j : Int, i ≤ j ∧ j < s.size ∧ (bt s j = 42 ∨ bt s j = 63)) := by
  intro d
  induction d with
  | zero =>
    intro k i h0 h1 hd hk
    obtain ⟨k, rfl⟩ : ∃ m, k = m + 1 := ⟨k - 1, by omega⟩
    simp only [match_IsPattern.l0]
    rw [if_neg (by omega)]
    exact ⟨false, rfl, by simp, fun ⟨j, a, b, _⟩ => by omega⟩
  | succ d ih =>
    intro k i h0 h1 hd hk
    obtain ⟨k, rfl⟩ : ∃ m, k = m + 1 := ⟨k - 1, by omega⟩
    simp only [match_IsPattern.l0]
    have w1 : wrap64 (i + 1) = i + 1 := mp_wrap (by omega) (by omega)
    rw [if_pos (by omega), if_pos h0, w1]
    by_cases c1 : bt s i = 42
    · rw [if_pos c1]; exact ⟨true, rfl, fun _ => ⟨i, by omega, by omega, Or.inl c1⟩, fun _ => rfl⟩
    · rw [if_neg c1]
      by_cases c2 : bt s i = 63
      · rw [if_pos c2]; exact ⟨true, rfl, fun _ => ⟨i, by omega, by omega, Or.inr c2⟩, fun _ => rfl⟩
      · rw [if_neg c2]
        obtain ⟨b, hr, hb⟩ := ih k (i + 1) (by omega) (by omega) (by omega) (by omega)
        refine ⟨b, hr, hb.trans ⟨fun ⟨j, a, c, e⟩ => ⟨j, by omega, c, e⟩, fun ⟨j, a, c, e⟩ => ⟨j, ?_, c, e⟩⟩⟩
        by_cases ej : j = i
        · subst ej
          rcases e with e | e
          · exact absurd e c1
          · exact absurd e c2
        · omega

theorem mp_impl (s : ByteArray) (hn : s.size ≤ 2147483647) (k : Nat) (hk : s.size < k) : ∃ b, impl_MtIsPattern.f k s = some b ∧ (b = true ↔ Wild s) := by
  obtain ⟨b, hr, hb⟩ := mp_is s hn s.size k 0 (by omega) (by omega) (by omega) hk
  exact ⟨b, by unfold impl_MtIsPattern.f match_IsPattern.f; rw [hr]; rfl, hb⟩

theorem mp_l1 (s : ByteArray) (hn : s.size ≤ 2147483647) (x7 : Bool) (h7 : x7 = true → Wild s) : ∀ (d k : Nat) (x8 : Bool) (i : Int), 0 ≤ i → i ≤ s.size → (s.size : Int) - i = d → d + s.size + 1 < k →
    (x8 = false → ∀ j : Int, 0 ≤ j → j < i → ¬ (bt s j = 42 ∨ bt s j = 63)) → laws_FnMtIsPattern.l1 k s x7 x8 i = some true := by
  intro d
  induction d with
  | zero =>
    intro k x8 i h0 h1 hd hk h8
    obtain ⟨k, rfl⟩ : ∃ m, k = m + 1 := ⟨k - 1, by omega⟩
    obtain ⟨b, hr, hb⟩ := mp_impl s hn k (by omega)
    simp only [laws_FnMtIsPattern.l1]
    rw [if_neg (by omega), hr]
    simp only [Option.bind_some]
    cases x7 with
    | true => rw [if_pos rfl, hb.2 (h7 rfl)]
    | false =>
      rw [if_neg (by simp)]
      cases x8 with
      | true => rw [if_pos rfl]
      | false =>
        rw [if_neg (by simp)]
        have : b = false := by
          cases b with
          | false => rfl
          | true =>
            obtain ⟨j, a, c, e⟩ := hb.1 rfl
            exact absurd e (h8 rfl j a (by omega))
        rw [this]; rfl
  | succ d ih =>
    intro k x8 i h0 h1 hd hk h8
    obtain ⟨k, rfl⟩ : ∃ m, k = m + 1 := ⟨k - 1, by omega⟩
    simp only [laws_FnMtIsPattern.l1]
    have w1 : wrap64 (i + 1) = i + 1 := mp_wrap (by omega) (by omega)
    rw [if_pos (by omega), w1]
    cases x8 with
    | true =>
      rw [if_pos rfl]
      exact ih k true (i + 1) (by omega) (by omega) (by omega) (by omega) (by simp)
    | false =>
      rw [if_neg (by simp), if_pos h0]
      by_cases c1 : bt s i = 42
      · rw [if_pos c1]
        exact ih k true (i + 1) (by omega) (by omega) (by omega) (by omega) (by simp)
      · rw [if_neg c1]
        refine ih k _ (i + 1) (by omega) (by omega) (by omega) (by omega) fun h j a b => ?_
        by_cases e : j = i
        · subst e
          have : ¬ bt s j = 63 := by simpa using h
          omega
        · exact h8 rfl j a (by omega)

theorem mp_l0 (s : ByteArray) (hn : s.size ≤ 2147483647) (x27 : List S28) (hl : (x27.length : Int) ≤ s.size) (hT : Tells s x27) : ∀ (d k : Nat) (x7 : Bool) (i : Int), 0 ≤ i → i ≤ x27.length → (x27.length : Int) - i = d → d + 2 * s.size + 2 < k →
    (x7 = true → Wild s) → laws_FnMtIsPattern.l0 k s x7 false x27 (x27.length : Int) i = some true := by
  intro d
  induction d with
  | zero =>
    intro k x7 i h0 h1 hd hk h7
    obtain ⟨k, rfl⟩ : ∃ m, k = m + 1 := ⟨k - 1, by omega⟩
    simp only [laws_FnMtIsPattern.l0]
    rw [if_neg (by omega)]
    exact mp_l1 s hn x7 h7 s.size k false 0 (by omega) (by omega) (by omega) (by omega) (fun _ j a b => by omega)
  | succ d ih =>
    intro k x7 i h0 h1 hd hk h7
    obtain ⟨k, rfl⟩ : ∃ m, k = m + 1 := ⟨k - 1, by omega⟩
    simp only [laws_FnMtIsPattern.l0]
    have w1 : wrap64 (i + 1) = i + 1 := mp_wrap (by omega) (by omega)
    rw [if_pos (by omega), if_pos h0, if_pos (by omega), w1]
    have hm : rd_T28 x27 i ∈ x27 := by
      unfold rd_T28
      rw [List.getD_eq_getElem?_getD, List.getElem?_eq_getElem (by omega)]
      exact List.getElem_mem _
    have ht := hT _ hm
    cases x7 with
    | true => rw [if_pos rfl]; exact ih k true (i + 1) (by omega) (by omega) (by omega) (by omega) h7
    | false =>
      rw [if_neg (by simp)]
      by_cases c : (rd_T28 x27 i).f0 = true
      · rw [if_pos c]
        exact ih k true (i + 1) (by omega) (by omega) (by omega) (by omega) (fun _ => ht (Or.inl c))
      · rw [if_neg c]
        exact ih k _ (i + 1) (by omega) (by omega) (by omega) (by omega) (fun h => ht (Or.inr h))

theorem FnMtIsPattern : laws_FnMtIsPattern.Pure := by
  intro s _
  by_cases hn : s.size ≤ 2147483647
  · refine ⟨4 * s.size + 20, ?_⟩
    obtain ⟨T, ok, hr, hT, hl⟩ := mp_globs s hn s.size (4 * s.size + 20) 0 [] (by omega) (by omega) (by omega) (by omega) (by simp) (by intro t ht; simp at ht)
    have hg : spec_Globs.f (4 * s.size + 20) s = some (T, ok) := hr
    have hc : spec_Characters.f (4 * s.size + 20) (⟨#[]⟩ : ByteArray) = some ([], true) := by
      unfold spec_Characters.f
      rw [show 4 * s.size + 20 = (4 * s.size + 19) + 1 from rfl]
      simp only [spec_Characters.l0]
      rw [if_neg (by show ¬ (0 : Int) < ((0 : Nat) : Int); omega)]
    unfold laws_FnMtIsPattern.f
    rw [if_neg (by omega), hg]
    have hm : ∃ a b, laws_mtTold.f (4 * s.size + 20) (⟨#[]⟩ : ByteArray) s = some (a, b) := by
      unfold laws_mtTold.f
      rw [if_neg (by show ¬ ((0 : Nat) : Int) > 4096; omega)]
      by_cases c : (s.size : Int) > 4096
      · rw [if_pos c]; exact ⟨_, _, rfl⟩
      · rw [if_neg c]
        unfold spec_Matches.f
        rw [hc, hg]
        simp only [Option.bind_some]
        rw [if_pos trivial]
        cases ok with
        | false => exact ⟨_, _, rfl⟩
        | true =>
          rw [if_pos rfl]
          obtain ⟨b, hb⟩ := mp_fits T (by omega) T.length (4 * s.size + 20) [true] 0 (by omega) (by omega) (by omega) (by omega) rfl
          have hf : spec_Fits.f (4 * s.size + 20) [] T = some b := by
            unfold spec_Fits.f
            have w1 : wrap64 ((([] : List Int).length : Int) + 1) = 1 := by unfold wrap64; simp
            rw [w1, if_pos (by omega), if_pos (by decide)]
            simp only [Option.bind_some]
            rw [if_pos (by decide)]
            exact hb
          rw [hf]
          exact ⟨_, _, rfl⟩
    obtain ⟨a, b, hm⟩ := hm
    rw [hm]
    simp only [Option.bind_some]
    cases b with
    | false => rfl
    | true =>
      rw [if_pos rfl]
      exact mp_l0 s hn T hl hT T.length (4 * s.size + 20) false 0 (by omega) (by omega) (by omega) (by omega) (by simp)
  · refine ⟨0, ?_⟩
    unfold laws_FnMtIsPattern.f
    rw [if_pos (by omega)]

end Go.Proofs.Ytifcmhekpbfboaa.Pure
