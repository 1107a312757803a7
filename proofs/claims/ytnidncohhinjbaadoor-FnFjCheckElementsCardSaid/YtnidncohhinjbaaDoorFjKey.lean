/- The walk of fastjson's validateKey. Conditions: the text takes at most 2^47 - 4096 bytes; the variable ErrSyntax holds an error. -/
import Derived.Test.YtnidncohhinjbaaDoorFjStr
namespace Go.Proofs.YtnidncohhinjbaaDoor
open Go.RowKit

def keyL : Nat → ByteArray → Nat → Option (ByteArray × ByteArray)
  | 0, _, _ => none
  | k + 1, s, i =>
    if h : i < s.size then (if s[i] = 34 then some (s.extract 0 i, s.extract (i + 1) s.size) else if s[i] = 92 then strF s else keyL k s (i + 1)) else none
def keyF (s : ByteArray) : Option (ByteArray × ByteArray) := keyL (s.size + 1) s 0

set_option maxHeartbeats 40000000 in
set_option maxRecDepth 100000 in
theorem validateKey_any (s : ByteArray) (w : World) (hs : s.size ≤ 140737488351232) (hG : GLErr w) :
    Calls Tryd.prog 102 #[.string s] w (SPost (keyF s) w) := by
  have HS := Lib.hid (validateString_any s w hs hG)
  clear hG
  obtain ⟨o, ho⟩ : ∃ o, o = keyF s := ⟨_, rfl⟩
  rw [← ho]
  have HO := Lib.hid ho.symm
  unfold keyF at HO
  clear ho
  obtain ⟨x, hx⟩ : ∃ x, x = strF s := ⟨_, rfl⟩
  rw [← hx] at HS
  have HX := Lib.hid hx
  clear hx
  go_enter Tryd.func102, Tryd.ntmps102
  go_wp2
  go_loopg [8] (s.size + 1) (fun g v8 wc => ∃ i : Nat, v8 = .int .i64 i ∧ i ≤ s.size ∧ s.size < i + g ∧ Hid (keyL g s i = o) ∧ w = wc)
  case atStart => exact ⟨0, rfl, Nat.zero_le _, by omega, HO, rfl⟩
  case round =>
    clear HO
    obtain ⟨i, rfl, hi, hg, HO, rfl⟩ := hrel
    have hf := HO.out
    clear HO
    cases gk with
    | zero => omega
    | succ j =>
    unfold keyL at hf
    by_cases hlt : i < s.size
    · rw [dif_pos hlt] at hf
      obtain ⟨hu1, hu2⟩ := u8_hi s[i]
      by_cases h1 : s[i] = 34
      · rw [if_pos h1] at hf
        have b1 : ((s[i].toNat : Int) == 34) = true := by rw [h1]; rfl
        subst hf
        clear h1
        go_wp2_with (fail)
        go_quiet (fail)
        go_wp2
        go_ret3
        exact SPost.yes rfl (below_drewN (Below.refl _ _) _)
      · rw [if_neg h1] at hf
        have b1 : ((s[i].toNat : Int) == 34) = false := u8_not (n := 34) (by decide) h1
        by_cases h2 : s[i] = 92
        · rw [if_pos h2] at hf
          have b2 : ((s[i].toNat : Int) == 92) = true := by rw [h2]; rfl
          rw [← HX.out] at hf
          subst hf
          clear h1 h2
          cases x with
          | none =>
            go_wp2_with (first | (go_at_call 90; refine HS.out.mono ?_; rintro e w1 ⟨hb, a, t, ty, p, rfl⟩) | fail)
            go_ret3
            exact SPost.no ⟨_, _, _, _, rfl⟩ hb
          | some y =>
            obtain ⟨a, t⟩ := y
            go_wp2_with (first | (go_at_call 90; refine HS.out.mono ?_; rintro e w1 ⟨hb, rfl⟩) | fail)
            go_ret3
            exact SPost.yes rfl hb
        · rw [if_neg h2] at hf
          have b2 : ((s[i].toNat : Int) == 92) = false := u8_not (n := 92) (by decide) h2
          have HF := Lib.hid hf
          clear hf h1 h2
          go_wp2
          go_roundg j
          case rel => exact ⟨i + 1, by go_num, hlt, by omega, HF, rfl⟩
          case measure => omega
    · rw [dif_neg hlt] at hf
      have hle : s.size ≤ i := by omega
      subst hf
      clear hlt
      go_wp2
      go_ret3
      exact SPost.no ⟨_, _, _, _, rfl⟩ ((Below.refl _ _).alloc (Nat.le_refl _) _)
end Go.Proofs.YtnidncohhinjbaaDoor
