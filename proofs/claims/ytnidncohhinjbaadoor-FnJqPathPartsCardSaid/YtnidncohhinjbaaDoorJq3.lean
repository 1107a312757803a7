/- strings.IndexByte at a backslash, as parseQuotedPathKey asks for it. Condition: the text takes at most 2^47 - 4096 bytes. -/
import Derived.Test.YtnidncohhinjbaaDoorJq2
import Derived.Test.YtnidncohhinjbaaDoorShelf
namespace Go.Proofs.YtnidncohhinjbaaDoor
open Go.RowKit

theorem ix_has : ∀ l : List UInt8, (Lib.indexByte l 92 == -1) = !l.contains 92
  | [] => by simp [Lib.indexByte]
  | b :: l => by
    have ih := ix_has l
    have hge := Lib.indexByte_ge l 92
    unfold Lib.indexByte
    by_cases hb : b = 92
    · subst hb
      simp
    · have h1 : (b == 92) = false := by simpa using hb
      have h2 : (92 == b) = false := by simpa using fun h => hb h.symm
      rw [h1]
      simp only [List.contains_cons, h2, Bool.false_or]
      rw [← ih]
      by_cases h3 : (Lib.indexByte l 92 == -1) = true
      · simp [h3]
      · have h4 : (Lib.indexByte l 92 == -1) = false := by simpa using h3
        rw [h4]
        have h5 : Lib.indexByte l 92 ≠ -1 := by simpa using h4
        simp
        omega

theorem ix_calls : IxCalls := fun x W _ => by
  refine (Tryd.strings_IndexByte x 92 W).mono ?_
  rintro e w' ⟨h, rfl⟩
  refine ⟨_, h, ?_, Below.refl _ _⟩
  exact ix_has x.data.toList
end Go.Proofs.YtnidncohhinjbaaDoor
