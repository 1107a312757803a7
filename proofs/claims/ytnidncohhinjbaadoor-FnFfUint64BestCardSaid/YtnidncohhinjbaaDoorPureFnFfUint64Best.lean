/- The pure statement of FnFfUint64Best: both read the same digits to the same end. No condition beyond the statement's own. -/
import Derived.Test.YtnidncohhinjbaaDoorMFnFfUint64Best1
namespace Go.Proofs.YtnidncohhinjbaaDoor.Pure
open Go.RowKit Go.Proofs.YtnidncohhinjbaaDoor Go.Proofs.YtnidncohhinjbaaDoor.MFnFfUint64Best Go.Proofs.YtnidncohhinjbaaDoorW.PrintWords Go.Proofs.YtnidncohhinjbaaDoorW.PrintLast

theorem ff_end (s : ByteArray) : ∀ (n k i : Nat) (d : Int), s.size - i = n → n < k → ∃ o, ffGo k s i d = some o := by
  intro n
  induction n with
  | zero =>
    intro k i d hn hk
    obtain ⟨k, rfl⟩ : ∃ m, k = m + 1 := ⟨k - 1, by omega⟩
    simp only [ffGo]
    rw [dif_neg (by omega)]
    split
    · exact ⟨_, rfl⟩
    · exact ⟨_, rfl⟩
  | succ n ih =>
    intro k i d hn hk
    obtain ⟨k, rfl⟩ : ∃ m, k = m + 1 := ⟨k - 1, by omega⟩
    simp only [ffGo]
    rw [dif_pos (by omega)]
    split
    · split
      · split
        · exact ⟨_, rfl⟩
        · exact ih k (i + 1) _ (by omega) (by omega)
      · exact ⟨_, rfl⟩
    · exact ⟨_, rfl⟩

theorem ff_seven (k : Nat) : impl_FfUint64Best.f (k + 2) (⟨#[55]⟩ : ByteArray) = some 7 := by
  unfold impl_FfUint64Best.f ffU
  rw [if_pos (by decide), if_neg (by decide)]
  simp only [ffGo]
  rfl

theorem FnFfUint64Best : laws_FnFfUint64Best.Pure := by
  intro s hs
  obtain ⟨o, ho⟩ : ∃ o, ffU (s.size + 2) s = some o := by
    unfold ffU
    split
    · exact ⟨_, rfl⟩
    · exact ff_end s s.size (s.size + 2) 0 0 (by omega) (by omega)
  refine ⟨s.size + 2, ?_⟩
  unfold laws_FnFfUint64Best.f
  split
  · rfl
  · split
    · rfl
    · rw [ff_seven]
      unfold impl_FfUint64.f impl_FfUint64Best.f
      rw [if_pos hs, ho]
      cases o with
      | some n => simp [hs]
      | none => simp [hs]

end Go.Proofs.YtnidncohhinjbaaDoor.Pure
