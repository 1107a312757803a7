/- The plain law of FnJqPathParts: both doors tell the same of one text, and the row of parts is equal to itself. No condition but the text's size. -/
import Derived.Test.YtnidncohhinjbaaDoorMFnJqPathParts1
namespace Go.Proofs.YtnidncohhinjbaaDoor.Pure
open Go.RowKit Go.Proofs.YtnidncohhinjbaaDoor.MFnJqPathParts Go.Proofs.YtnidncohhinjbaaDoorW.PrintWords Go.Proofs.YtnidncohhinjbaaDoorW.PrintLast

theorem jp_wrap {x : Int} (h0 : -9223372036854775808 ≤ x) (h : x ≤ 9223372036854775807) : wrap64 x = x := by unfold wrap64; omega

theorem same_loop : ∀ (k : Nat) (l : List ByteArray) (j : Nat), l.length ≤ 1000 → j ≤ l.length → l.length < j + k → laws_sameStrings.l0 k l l (j : Int) = some true
  | 0, l, j, h0, h1, h2 => by omega
  | k + 1, l, j, h0, h1, h2 => by
    unfold laws_sameStrings.l0
    by_cases h : j < l.length
    · have hw : wrap64 ((j : Int) + 1) = ((j + 1 : Nat) : Int) := by
        rw [show (j : Int) + 1 = ((j + 1 : Nat) : Int) by omega]
        exact jp_wrap (by omega) (by omega)
      rw [if_pos (by omega), if_pos (by omega), if_pos (by omega), if_pos rfl, hw]
      exact same_loop k l (j + 1) h0 (by omega) (by omega)
    · rw [if_neg (by omega)]

theorem same_self (l : List ByteArray) (h : l.length ≤ 1000) : laws_sameStrings.f 2000 l l = some true := by
  unfold laws_sameStrings.f
  rw [if_pos rfl]
  exact same_loop 2000 l 0 h (Nat.zero_le _) (by omega)

theorem pathR_length (s : ByteArray) (h : s.size ≤ 1000) : (pathR s).1.length ≤ 1000 := by
  unfold pathR
  cases hp : pathF unU s with
  | none => exact Nat.zero_le _
  | some l => exact Nat.le_trans (pathF_length unU hp) h

theorem FnJqPathParts : laws_FnJqPathParts.Pure := by
  intro a0 _
  refine ⟨2000, ?_⟩
  unfold laws_FnJqPathParts.f
  by_cases h1 : (a0.size : Int) > 2147483647
  · rw [if_pos h1]
  · rw [if_neg h1]
    by_cases h2 : (a0.size : Int) > 1000
    · rw [if_pos h2]
    · rw [if_neg h2]
      have hs : a0.size ≤ 1000 := by omega
      have e1 : impl_JqParsePath.f a0 = some (pathR a0) := by unfold impl_JqParsePath.f; rw [if_pos hs]
      have e2 : impl_JqPathParts.f a0 = some (pathR a0) := by unfold impl_JqPathParts.f; rw [if_pos hs]
      have e3 : impl_JqPathParts.f (⟨#[36, 46, 97, 91, 48, 93]⟩ : ByteArray) = some ([⟨#[97]⟩, ⟨#[91, 48, 93]⟩], true) := by
        unfold impl_JqPathParts.f
        rw [if_pos (by decide)]
        unfold pathR
        rw [path_one]
      rw [e1, e2, e3]
      simp only [Option.bind_some]
      rw [if_pos trivial, if_pos (by simp), same_self _ (pathR_length a0 hs)]
      rfl
end Go.Proofs.YtnidncohhinjbaaDoor.Pure
