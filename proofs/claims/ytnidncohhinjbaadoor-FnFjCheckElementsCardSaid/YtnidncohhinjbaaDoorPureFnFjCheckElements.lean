/- The pure statement of FnFjCheckElements: fjElements' loop is validateArray's. No condition beyond the statement's own. -/
import Derived.Test.YtnidncohhinjbaaDoorMFnFjCheckElements1
namespace Go.Proofs.YtnidncohhinjbaaDoor.Pure
open Go.RowKit Go.Proofs.YtnidncohhinjbaaDoor Go.Proofs.YtnidncohhinjbaaDoor.MFnFjCheckElements Go.Proofs.YtnidncohhinjbaaDoorW.PrintWords Go.Proofs.YtnidncohhinjbaaDoorW.PrintLast

theorem bt0 {s : ByteArray} (h : 0 < s.size) : bt s 0 = (s[0].toNat : Int) := by
  unfold bt
  simp [h]
theorem toList_nil {s : ByteArray} (h : 0 < s.size) : ¬ s.toList = ([] : List UInt8) := by
  intro e
  have : s.toList.isEmpty = false := by
    rw [← decide_eq_emptyBytes]
    exact decide_eq_false (fun h' => by rw [h'] at h; exact absurd h (by decide))
  rw [e] at this
  simp at this
theorem skip_f {s : ByteArray} (hs : s.size ≤ 140737488351232) : impl_FjSkip.f s = some (skipF s) := if_pos hs
theorem val_f {s : ByteArray} (hs : s.size ≤ 140737488351232) : impl_FjCheckValue.f s = some (resOf (valA s)) := if_pos hs
theorem u8i {c : UInt8} {n : Nat} (hn : n < 256) : ((c.toNat : Int) = (n : Int)) ↔ c = UInt8.ofNat n := by
  constructor
  · intro h
    apply UInt8.toNat_inj.1
    rw [UInt8.toNat_ofNat_of_lt' (by simpa using hn)]
    omega
  · rintro rfl
    rw [UInt8.toNat_ofNat_of_lt' (by simpa using hn)]
theorem el_loop : ∀ (n j k : Nat) (s : ByteArray), s.size ≤ n → n < j → 3 * n + 3 ≤ k → s.size ≤ 140737488351232 → laws_fjElements.l0 k s = some (resOf (arrL valA j s)) := by
  intro n
  induction n using Nat.strongRecOn with
  | ind n ih =>
  intro j k s hsn hj hk hs
  obtain ⟨j, rfl⟩ : ∃ m, j = m + 1 := ⟨j - 1, by omega⟩
  obtain ⟨k, rfl⟩ : ∃ m, k = m + 3 := ⟨k - 3, by omega⟩
  have h1 := skipF_size s hs
  simp only [laws_fjElements.l0, arrL]
  rw [skip_f hs, Option.bind_some, val_f (by omega), Option.bind_some]
  cases hv : valA (skipF s) with
  | none => simp [resOf, laws_fjElements.j2]
  | some t =>
    have h2 := valF_lt _ _ _ (by omega) hv
    have h3 := skipF_size t (by omega)
    have e1 : decide (((resOf (some t)).1.size : Int) ≥ (s.size : Int)) = false := decide_eq_false (by show ¬ ((t.size : Int) ≥ (s.size : Int)); omega)
    rw [if_pos (show (resOf (some t)).2 = true from rfl), e1]
    simp only [resOf, laws_fjElements.j2, Bool.false_eq_true, if_false]
    rw [skip_f (by omega), Option.bind_some]
    by_cases hz : 0 < (skipF t).size
    · rw [if_neg (toList_nil hz), if_pos (show 0 < ((skipF t).size : Int) by omega), bt0 hz, dif_pos hz]
      have hx : ((skipF t).extract 1 (skipF t).size).size < n := by rw [ByteArray.size_extract]; omega
      have := ih _ hx j k ((skipF t).extract 1 (skipF t).size) (Nat.le_refl _) (by omega) (by omega) (by rw [ByteArray.size_extract]; omega)
      by_cases hc : (skipF t)[0] = 44
      · rw [if_pos (by rw [hc]; rfl), if_pos hc]
        simp only [laws_fjElements.j3, Bool.false_eq_true, if_false]
        rw [if_pos (show 0 < ((skipF t).size : Int) by omega), bt0 hz, if_neg (by rw [hc]; decide), if_pos (show 1 ≤ ((skipF t).size : Int) by omega)]
        exact this
      · rw [if_neg (show ¬ ((skipF t)[0].toNat : Int) = 44 from fun e => hc ((u8i (n := 44) (by decide)).1 e)), if_neg hc]
        by_cases hd : (skipF t)[0] = 93
        · rw [if_pos hd, hd]
          simp [laws_fjElements.j3, bt0 hz, hd, hz]
          omega
        · have e2 : (((skipF t)[0].toNat : Int) != 93) = true := by
            simp only [bne_iff_ne, ne_eq]
            exact fun e => hd ((u8i (n := 93) (by decide)).1 e)
          rw [if_neg hd, e2]
          simp [laws_fjElements.j3]
    · have e0 : (skipF t).toList = ([] : List UInt8) := by
        have : skipF t = ⟨#[]⟩ := by
          apply ByteArray.ext
          apply Array.eq_empty_of_size_eq_zero
          have : (skipF t).data.size = (skipF t).size := rfl
          omega
        rw [this]
        first | decide +kernel | simp | (unfold ByteArray.toList; rw [ByteArray.toList.loop]; simp)
      rw [if_pos e0, dif_neg hz]
      simp [laws_fjElements.j3]
theorem one : ∃ r, arrF valA (⟨#[49, 44, 50, 93]⟩ : ByteArray) = some r := by
  have h : ∀ k, arrF (valF (k + 1)) (⟨#[49, 44, 50, 93]⟩ : ByteArray) = some ⟨#[]⟩ := fun k => by rfl
  exact ⟨_, h _⟩
theorem toList_empty {s : ByteArray} (h : s.size = 0) : s.toList = ([] : List UInt8) := by
  have : s = ⟨#[]⟩ := by
    apply ByteArray.ext
    apply Array.eq_empty_of_size_eq_zero
    exact h
  rw [this]
  first | decide +kernel | simp | (unfold ByteArray.toList; rw [ByteArray.toList.loop]; simp)
theorem val_none {s : ByteArray} (h : s.size = 0) : valA s = none := by
  cases hv : valA s with
  | none => rfl
  | some r => exact absurd (valF_lt _ _ _ (by omega) hv) (by omega)
theorem el_f (s : ByteArray) (hs : s.size ≤ 140737488351232) : laws_fjElements.f (3 * s.size + 10) s = some (resOf (arrF valA s)) := by
  have h1 := skipF_size s hs
  have h2 := skipF_size (skipF s) (by omega)
  unfold laws_fjElements.f arrF
  rw [skip_f hs, Option.bind_some]
  by_cases hz : 0 < (skipF s).size
  · rw [if_neg (toList_nil hz), if_pos (show 0 < ((skipF s).size : Int) by omega), bt0 hz, dif_pos hz]
    by_cases hc : (skipF s)[0] = 93
    · rw [if_pos hc, hc]
      simp [laws_fjElements.j0, resOf]
      omega
    · have e2 : (((skipF s)[0].toNat : Int) == 93) = false := by
        simp only [beq_eq_false_iff_ne, ne_eq]
        exact fun e => hc ((u8i (n := 93) (by decide)).1 e)
      rw [if_neg hc, e2]
      simp only [laws_fjElements.j0, Bool.false_eq_true, if_false]
      exact el_loop (skipF s).size _ _ _ (Nat.le_refl _) (by omega) (by omega) (by omega)
  · rw [dif_neg hz]
    have e : ∀ b : Bool, b = false → laws_fjElements.j0 (3 * s.size + 10) (skipF s) b = some (resOf none) := by
      rintro b rfl
      simp only [laws_fjElements.j0, Bool.false_eq_true, if_false]
      rw [el_loop (skipF s).size ((skipF s).size + 1) _ _ (Nat.le_refl _) (by omega) (by omega) (by omega)]
      unfold arrL
      rw [val_none (by omega)]
    rw [if_pos (toList_empty (by omega))]
    exact e _ rfl
theorem FnFjCheckElements : laws_FnFjCheckElements.Pure := by
  intro s hs
  refine ⟨3 * s.size + 10, ?_⟩
  unfold laws_FnFjCheckElements.f
  split
  · rfl
  · split
    · rfl
    · obtain ⟨r, hr⟩ := one
      have hb : impl_FjCheckArray.f (⟨#[49, 44, 50, 93]⟩ : ByteArray) = some (r, true) := by
        unfold impl_FjCheckArray.f
        rw [if_pos (by decide), hr]
        rfl
      have ha : impl_FjCheckArray.f s = some (resOf (arrF valA s)) := if_pos hs
      rw [el_f s hs, Option.bind_some, ha, Option.bind_some, hb, Option.bind_some, if_pos rfl]
      cases arrF valA s <;> simp [resOf]
end Go.Proofs.YtnidncohhinjbaaDoor.Pure
