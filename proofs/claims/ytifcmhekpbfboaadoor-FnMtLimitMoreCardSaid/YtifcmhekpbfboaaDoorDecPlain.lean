/- Plain facts on the runes at a text's two ends: how wide they are, and that taking runes from the end does not cut the first one. No condition; no program in sight. -/
import Derived.Lib.TrimU
import Derived.Lib.SpaceU
import Derived.Lib.Hide
namespace Go.Proofs.YtifcmhekpbfboaaDoor
open Go.Lib

theorem dn_le (n b0 b1 b2 b3 : Nat) (hn : 1 ≤ n) : (decodeN n b0 b1 b2 b3).2 ≤ n := by
  unfold decodeN
  repeat' split
  all_goals simp only
  all_goals omega
theorem dn_four (n b0 b1 b2 b3 : Nat) : (decodeN n b0 b1 b2 b3).2 ≤ 4 := by
  unfold decodeN
  repeat' split
  all_goals simp
theorem dn_42 (n b0 b1 b2 b3 : Nat) (h : (decodeN n b0 b1 b2 b3).1 = 42) : b0 = 42 := by
  unfold decodeN at h
  repeat' split at h
  all_goals simp only at h
  all_goals omega
theorem dn_cases (n b0 b1 b2 b3 : Nat) :
    (decodeN n b0 b1 b2 b3).2 = 1 ∨ ((decodeN n b0 b1 b2 b3).2 = 2 ∧ b0 / 32 = 6 ∧ 1 < n ∧ b1 / 64 = 2) ∨ ((decodeN n b0 b1 b2 b3).2 = 3 ∧ b0 / 16 = 14 ∧ 2 < n ∧ b1 / 64 = 2 ∧ b2 / 64 = 2) ∨
      ((decodeN n b0 b1 b2 b3).2 = 4 ∧ b0 / 8 = 30 ∧ 3 < n ∧ b1 / 64 = 2 ∧ b2 / 64 = 2 ∧ b3 / 64 = 2) := by
  unfold decodeN
  repeat' split
  all_goals first
    | exact .inl rfl
    | exact .inr (.inl ⟨rfl, by omega, by omega, by omega⟩)
    | exact .inr (.inr (.inl ⟨rfl, by omega, by omega, by omega, by omega⟩))
    | exact .inr (.inr (.inr ⟨rfl, by omega, by omega, by omega, by omega, by omega⟩))
/-- Of a rune of more bytes than one the first is no later byte, and the others are. -/
theorem dn_bytes (n b0 b1 b2 b3 : Nat) (hb : b0 < 256) (h : 2 ≤ (decodeN n b0 b1 b2 b3).2) :
    192 ≤ b0 ∧ b0 / 64 ≠ 2 ∧ b1 / 64 = 2 ∧ (3 ≤ (decodeN n b0 b1 b2 b3).2 → b2 / 64 = 2) ∧ (4 ≤ (decodeN n b0 b1 b2 b3).2 → b3 / 64 = 2) := by
  have := dn_cases n b0 b1 b2 b3
  generalize (decodeN n b0 b1 b2 b3).2 = W at *
  omega

/-- The first rune alone is read as it is in the text. -/
theorem dn_alone (n b0 b1 b2 b3 c2 c3 : Nat) (h : 2 ≤ (decodeN n b0 b1 b2 b3).2) (h2 : 3 ≤ (decodeN n b0 b1 b2 b3).2 → c2 = b2) (h3 : 4 ≤ (decodeN n b0 b1 b2 b3).2 → c3 = b3) :
    (decodeN (decodeN n b0 b1 b2 b3).2 b0 b1 c2 c3).2 = (decodeN n b0 b1 b2 b3).2 := by
  unfold decodeN at h h2 h3 ⊢
  split at h
  · simp only at h; omega
  · rename_i a0
    split at h
    · rename_i a1
      split at h
      · rename_i a2
        simp only [if_neg a0, if_pos a1, if_pos a2]
        rw [if_pos ⟨a1.1, by omega, a1.2.2⟩]
      · simp only at h; omega
    · rename_i a1
      split at h
      · rename_i a3
        split at h
        · rename_i a4
          simp only [if_neg a0, if_neg a1, if_pos a3, if_pos a4] at h2 ⊢
          obtain rfl := h2 (by omega)
          rw [if_neg (by omega), if_pos ⟨a3.1, ⟨by omega, a3.2.1.2⟩, by omega, a3.2.2.2⟩, if_pos a4]
        · simp only at h; omega
      · rename_i a3
        split at h
        · rename_i a5
          split at h
          · rename_i a6
            simp only [if_neg a0, if_neg a1, if_neg a3, if_pos a5, if_pos a6] at h2 h3 ⊢
            obtain rfl := h2 (by omega)
            obtain rfl := h3 (by omega)
            rw [if_neg (by omega), if_neg (by omega), if_pos ⟨a5.1, ⟨by omega, a5.2.1.2⟩, ⟨by omega, a5.2.2.1.2⟩, by omega, a5.2.2.2.2⟩, if_pos a6]
          · simp only at h; omega
        · simp only at h; omega

/-- The head of a list, by its bytes. -/
def bn (l : List UInt8) (i : Nat) : Nat := (l.getD i 0).toNat
theorem bn_lt (l : List UInt8) (i : Nat) : bn l i < 256 := UInt8.toNat_lt _
theorem get_bn (l : List UInt8) (i : Nat) : ((⟨l.toArray⟩ : ByteArray).get! i).toNat = bn l i := by
  show (l.toArray[i]!).toNat = _
  unfold bn
  congr 1
  simp [List.getElem!_eq_getElem?_getD, List.getD_eq_getElem?_getD]
  rfl
theorem decL (l : List UInt8) : decodeL l = decodeN l.length (bn l 0) (bn l 1) (bn l 2) (bn l 3) := by
  unfold decodeL
  rw [decode_at, get_bn, get_bn, get_bn, get_bn]
  rfl

theorem lastStart_cases (l : List UInt8) (h : 2 ≤ l.length) : lastStart l = 0 ∨ (lastStart l < l.length ∧ runeStartB (l.getD (lastStart l) 0) = true) ∨ lastStart l + 5 = l.length := by
  unfold lastStart
  simp only
  rw [if_neg (by omega)]
  split
  · exact .inr (.inl ⟨by omega, by assumption⟩)
  · split
    · exact .inl rfl
    · split
      · exact .inr (.inl ⟨by omega, by assumption⟩)
      · split
        · exact .inl rfl
        · split
          · exact .inr (.inl ⟨by omega, by assumption⟩)
          · split
            · exact .inl rfl
            · exact .inr (.inr (by omega))

theorem start_bn (l : List UInt8) (i : Nat) : runeStartB (l.getD i 0) = true ↔ bn l i / 64 ≠ 2 := by
  unfold runeStartB bn
  simp

/-- A pattern that begins with a star: its last rune does not take the star in, if more than the star stands there. -/
theorem last_star (l : List UInt8) (h2 : 2 ≤ l.length) (h42 : bn l 0 = 42) : 1 ≤ (decodeLastL l).2 ∧ (decodeLastL l).2 ≤ l.length - 1 := by
  have hw := decodeLastL_width l (by omega)
  refine ⟨hw.1, ?_⟩
  unfold decodeLastL
  rw [if_neg (by intro e; rw [e] at h2; simp at h2)]
  split
  · simp only; omega
  · simp only
    split
    · rename_i hs
      rcases lastStart_cases l h2 with h0 | ⟨h1, _⟩ | h5
      · rw [h0] at hs ⊢
        rw [List.drop_zero] at hs ⊢
        have : (decodeL l).2 = 1 := by rw [decL, h42]; rfl
        omega
      · by_cases e : lastStart l = 0
        · rw [e] at hs ⊢
          rw [List.drop_zero] at hs ⊢
          have : (decodeL l).2 = 1 := by rw [decL, h42]; rfl
          omega
        · omega
      · have := dn_four (l.drop (lastStart l)).length (bn (l.drop (lastStart l)) 0) (bn (l.drop (lastStart l)) 1) (bn (l.drop (lastStart l)) 2) (bn (l.drop (lastStart l)) 3)
        rw [← decL] at this
        omega
    · simp only; omega

theorem bn_take {l : List UInt8} {i j : Nat} (h : i < j) : bn (l.take j) i = bn l i := by
  unfold bn
  simp [List.getD_eq_getElem?_getD, h]

/-- The text's first rune is not cut by taking runes from the end. -/
theorem last_keeps (l : List UInt8) (j : Nat) (hj : j ≤ l.length) (h1 : 1 ≤ j) (hw : (decodeL l).2 ≤ j) :
    j - (decodeLastL (l.take j)).2 = 0 ∨ (decodeL l).2 ≤ j - (decodeLastL (l.take j)).2 := by
  have hl : (l.take j).length = j := by rw [List.length_take]; omega
  have hd := decodeLastL_width (l.take j) (by omega)
  rw [hl] at hd
  by_cases h2 : 2 ≤ (decodeL l).2
  · have hb := dn_bytes l.length (bn l 0) (bn l 1) (bn l 2) (bn l 3) (bn_lt l 0) (by rw [← decL]; exact h2)
    have h4 := dn_four l.length (bn l 0) (bn l 1) (bn l 2) (bn l 3)
    rw [← decL] at hb h4
    obtain ⟨hb0, hb00, hb1, hb2, hb3⟩ := hb
    obtain ⟨W, hW⟩ : ∃ W, W = (decodeL l).2 := ⟨_, rfl⟩
    rw [← hW] at hw h2 h4 hb2 hb3 ⊢
    have later : ∀ i, 0 < i → i < W → bn l i / 64 = 2 := fun i hi hi2 => by
      have : i = 1 ∨ i = 2 ∨ i = 3 := by omega
      rcases this with rfl | rfl | rfl
      · exact hb1
      · exact hb2 (by omega)
      · exact hb3 (by omega)
    unfold decodeLastL
    rw [if_neg (by intro e; rw [e] at hl; simp at hl; omega), hl]
    split
    · rename_i hlt
      simp only
      by_cases e : j = W
      · have : bn l (j - 1) / 64 = 2 := later (j - 1) (by omega) (by omega)
        have hlt' : bn (l.take j) (j - 1) < 128 := hlt
        rw [bn_take (by omega)] at hlt'
        omega
      · omega
    · simp only
      split
      · rename_i hs
        rcases lastStart_cases (l.take j) (by omega) with h0 | ⟨h1', hst⟩ | h5
        · omega
        · rw [hl] at h1'
          by_cases e0 : lastStart (l.take j) = 0
          · omega
          · by_cases e : lastStart (l.take j) < W
            · rw [start_bn, bn_take (by omega)] at hst
              exact absurd (later _ (by omega) e) hst
            · omega
        · rw [hl] at h5
          have := dn_four ((l.take j).drop (lastStart (l.take j))).length (bn ((l.take j).drop (lastStart (l.take j))) 0) (bn ((l.take j).drop (lastStart (l.take j))) 1) (bn ((l.take j).drop (lastStart (l.take j))) 2) (bn ((l.take j).drop (lastStart (l.take j))) 3)
          rw [← decL] at this
          omega
      · rename_i hs
        simp only
        by_cases e : j = W
        · exfalso
          apply hs
          have hst0 : lastStart (l.take j) = 0 := by
            rcases lastStart_cases (l.take j) (by omega) with h0 | ⟨h1', hst⟩ | h5
            · exact h0
            · rw [hl] at h1'
              by_cases e0 : lastStart (l.take j) = 0
              · exact e0
              · rw [start_bn, bn_take (by omega)] at hst
                exact absurd (later _ (by omega) (by omega)) hst
            · rw [hl] at h5; omega
          rw [hst0, List.drop_zero, decL, hl, bn_take (by omega), bn_take (by omega), e]
          rw [decL] at hW
          rw [hW] at h2 ⊢
          rw [dn_alone _ _ _ _ _ _ _ h2 (fun h3 => bn_take (by omega)) (fun h3 => bn_take (by omega))]
          omega
        · omega
  · have := (decodeL_width l)
    omega

end Go.Proofs.YtifcmhekpbfboaaDoor
