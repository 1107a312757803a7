/- The walk of fastjson's validateValue, for any functions A and O that say where an array's and an object's insides end. Conditions: the text takes at most 2^47 - 4096 bytes; the variable ErrSyntax holds an error. -/
import Derived.Test.YtnidncohhinjbaaDoorFjKey
import Derived.Test.YtnidncohhinjbaaDoorFjArr
namespace Go.Proofs.YtnidncohhinjbaaDoor
open Go.RowKit

/-- Whether a byte below 32 stands in the text. -/
def lowB (s : ByteArray) : Bool := s.data.toList.any fun c => decide ((c.toNat : Int) < 32)
theorem low_yes {s : ByteArray} {k : Nat} (h : k < s.size) (hc : (s[k].toNat : Int) < 32) : lowB s = true := by
  unfold lowB
  rw [List.any_eq_true]
  exact ⟨s[k], List.getElem_mem (by simpa using h), by simpa using hc⟩
theorem low_no {s : ByteArray} (h : ∀ k (hk : k < s.size), ¬ (s[k].toNat : Int) < 32) : lowB s = false := by
  unfold lowB
  rw [List.any_eq_false]
  intro c hc
  obtain ⟨k, hk, rfl⟩ := List.getElem_of_mem hc
  intro hh
  exact h k (by simpa using hk) (of_decide_eq_true hh)

theorem escF_size : ∀ (k : Nat) (r a : ByteArray), escF k r = some a → a.size ≤ r.size
  | 0, r, a, h => by simp [escF] at h
  | k + 1, r, a, h => by
    simp only [escF] at h
    split at h
    · split at h
      · split at h
        · have := escF_size k _ a h
          simp only [ByteArray.size_extract] at this
          omega
        · split at h
          · split at h
            · simp at h
            · split at h
              · simp at h
              · have := escF_size k _ a h
                simp only [ByteArray.size_extract] at this
                omega
          · simp at h
      · simp at h
    · obtain rfl := Option.some.inj h
      exact Nat.le_refl _
theorem strF_size {s a t : ByteArray} (h : strF s = some (a, t)) : a.size ≤ s.size ∧ t.size < s.size := by
  unfold strF at h
  rcases hc : closeL s.data.toList with _ | m
  · rw [hc] at h; simp at h
  · rw [hc] at h
    have hm := (closeL_of hc).1
    rw [rk_len] at hm
    simp only [Option.map_eq_some_iff, Prod.mk.injEq] at h
    obtain ⟨b, hb, rfl, rfl⟩ := h
    have := escF_size _ _ _ hb
    simp only [ByteArray.size_extract] at this ⊢
    omega

def valS (A O : ByteArray → Option ByteArray) (s : ByteArray) : Option ByteArray :=
  if h : 0 < s.size then
    (if s[0] = 123 then O (s.extract 1 s.size)
     else if s[0] = 91 then A (s.extract 1 s.size)
     else if s[0] = 34 then (match strF (s.extract 1 s.size) with | none => none | some (a, t) => if lowB a = true then none else some t)
     else if s[0] = 116 then (if s.size < 4 then none else if ((s.extract 0 4).toList == [116, 114, 117, 101]) = true then some (s.extract 4 s.size) else none)
     else if s[0] = 102 then (if s.size < 5 then none else if ((s.extract 0 5).toList == [102, 97, 108, 115, 101]) = true then some (s.extract 5 s.size) else none)
     else if s[0] = 110 then (if s.size < 4 then none else if ((s.extract 0 4).toList == [110, 117, 108, 108]) = true then some (s.extract 4 s.size) else none)
     else numF s)
  else none

set_option maxHeartbeats 40000000 in
set_option maxRecDepth 100000 in
theorem value_any (A O : ByteArray → Option ByteArray) (s : ByteArray) (w : World) (hs : s.size ≤ 140737488351232) (hG : GLErr w)
    (hA : ∀ t w, t.size < s.size → GLErr w → Calls Tryd.prog 50 #[.string t] w (VPost (A t) w))
    (hO : ∀ t w, t.size < s.size → GLErr w → Calls Tryd.prog 89 #[.string t] w (VPost (O t) w)) :
    Calls Tryd.prog 67 #[.string s] w (VPost (valS A O s) w) := by
  obtain ⟨o, ho⟩ : ∃ o, o = valS A O s := ⟨_, rfl⟩
  rw [← ho]
  unfold valS at ho
  by_cases h0 : 0 < s.size
  · have b0 : (((s.size : Nat) : Int) == 0) = false := n0_ne (by omega)
    rw [dif_pos h0] at ho
    have hss : (s.extract 1 s.size).size < s.size := by rw [ByteArray.size_extract]; omega
    have HA := Lib.hid (hA _ w hss hG)
    have HO := Lib.hid (hO _ w hss hG)
    have HS := Lib.hid (validateString_any (s.extract 1 s.size) w (by omega) hG)
    have HN := Lib.hid (validateNumber_any s w hs)
    obtain ⟨hu1, hu2⟩ := u8_hi s[0]
    clear hA hO hG hss
    by_cases hc : s[0] = 123
    · rw [if_pos hc] at ho
      have f123 : ((s[0].toNat : Int) == 123) = true := by rw [hc]; rfl
      rw [← ho] at HO
      clear hc ho
      cases o with
      | none =>
        go_enter Tryd.func67, Tryd.ntmps67
        go_wp2_with (first | (go_at_call 89; refine HO.out.mono ?_; rintro e w1 ⟨hb, t, ty, p, rfl⟩) | go_in)
        go_ret2
        exact VPost.no ⟨_, _, _, rfl⟩ (hb.alloc hb.size _)
      | some t =>
        go_enter Tryd.func67, Tryd.ntmps67
        go_wp2_with (first | (go_at_call 89; refine HO.out.mono ?_; rintro e w1 ⟨hb, rfl⟩) | go_in)
        go_ret2
        exact VPost.yes rfl hb
    · rw [if_neg hc] at ho
      have f123 : ((s[0].toNat : Int) == 123) = false := u8_not (n := 123) (by decide) hc
      clear hc
      by_cases hc : s[0] = 91
      · rw [if_pos hc] at ho
        have f91 : ((s[0].toNat : Int) == 91) = true := by rw [hc]; rfl
        rw [← ho] at HA
        clear hc ho
        cases o with
        | none =>
          go_enter Tryd.func67, Tryd.ntmps67
          go_wp2_with (first | (go_at_call 50; refine HA.out.mono ?_; rintro e w1 ⟨hb, t, ty, p, rfl⟩) | go_in)
          go_ret2
          exact VPost.no ⟨_, _, _, rfl⟩ (hb.alloc hb.size _)
        | some t =>
          go_enter Tryd.func67, Tryd.ntmps67
          go_wp2_with (first | (go_at_call 50; refine HA.out.mono ?_; rintro e w1 ⟨hb, rfl⟩) | go_in)
          go_ret2
          exact VPost.yes rfl hb
      · rw [if_neg hc] at ho
        have f91 : ((s[0].toNat : Int) == 91) = false := u8_not (n := 91) (by decide) hc
        clear hc
        by_cases hc : s[0] = 34
        · rw [if_pos hc] at ho
          have f34 : ((s[0].toNat : Int) == 34) = true := by rw [hc]; rfl
          have hxs : ∀ a t, strF (s.extract 1 s.size) = some (a, t) → a.size ≤ 140737488351232 := fun a t h => by have := (strF_size h).1; rw [ByteArray.size_extract] at this; omega
          generalize strF (s.extract 1 s.size) = x at ho HS hxs
          clear hc
          cases x with
          | none =>
            subst ho
            go_enter Tryd.func67, Tryd.ntmps67
            go_wp2_with (first | (go_at_call 90; refine HS.out.mono ?_; rintro e w1 ⟨hb, a, t, ty, p, rfl⟩) | go_in)
            go_ret2
            exact VPost.no ⟨_, _, _, rfl⟩ (hb.alloc hb.size _)
          | some y =>
            obtain ⟨x, t⟩ := y
            have hx := hxs x t rfl
            clear hxs
            simp only at ho
            have HE := Lib.hid ho
            clear ho
            go_enter Tryd.func67, Tryd.ntmps67
            go_wp2_with (first | (go_at_call 90; refine HS.out.mono ?_; rintro e w1 ⟨hb, rfl⟩) | go_in)
            have HB := Lib.hid hb
            clear hb
            go_loopg [63] (x.size + 1) (fun g v63 wc => ∃ i : Nat, v63 = .int .i64 i ∧ i ≤ x.size ∧ x.size < i + g ∧ Hid (∀ k (hk : k < x.size), k < i → ¬ (x[k].toNat : Int) < 32) ∧ w1 = wc)
            case atStart => exact ⟨0, rfl, Nat.zero_le _, by omega, Lib.hid fun k _ h => absurd h (by omega), rfl⟩
            case round =>
              obtain ⟨i, rfl, hi, hg, HK, rfl⟩ := hrel
              by_cases hlt : i < x.size
              · obtain ⟨hu1, hu2⟩ := u8_hi x[i]
                by_cases hl : (x[i].toNat : Int) < 32
                · have bl : decide ((x[i].toNat : Int) < 32) = true := decide_eq_true hl
                  have e : o = none := by rw [HE.out, if_pos (low_yes hlt hl)]
                  subst e
                  clear hl
                  go_wp2
                  go_ret2
                  exact VPost.no ⟨_, _, _, rfl⟩ (HB.out.alloc HB.out.size _)
                · have bl : decide ((x[i].toNat : Int) < 32) = false := decide_eq_false hl
                  have HK2 := Lib.hid (fun k (hk : k < x.size) (hki : k < i + 1) => (if e : k = i then by subst e; exact hl else HK.out k hk (by omega) : ¬ (x[k].toNat : Int) < 32))
                  clear hl
                  go_wp2
                  go_roundg (gk - 1)
                  case rel => exact ⟨i + 1, by go_num, hlt, by omega, HK2, rfl⟩
                  case measure => omega
              · have hle : x.size ≤ i := by omega
                have e : o = some t := by
                  rw [HE.out, low_no fun k hk => HK.out k hk (by omega)]
                  rfl
                subst e
                clear hlt
                go_wp2
                go_ret2
                exact VPost.yes rfl HB.out
        · rw [if_neg hc] at ho
          have f34 : ((s[0].toNat : Int) == 34) = false := u8_not (n := 34) (by decide) hc
          clear hc
          by_cases hc : s[0] = 116
          · rw [if_pos hc] at ho
            have f116 : ((s[0].toNat : Int) == 116) = true := by rw [hc]; rfl
            clear hc
            by_cases hl : s.size < 4
            · rw [if_pos hl] at ho
              have bl : decide (((s.size : Nat) : Int) < 4) = true := decide_eq_true (by omega)
              subst ho
              clear hl
              go_enter Tryd.func67, Tryd.ntmps67
              go_wp2
              go_ret2
              exact VPost.no ⟨_, _, _, rfl⟩ ((Below.refl _ _).alloc (Nat.le_refl _) _)
            · rw [if_neg hl] at ho
              have bl : decide (((s.size : Nat) : Int) < 4) = false := decide_eq_false (by omega)
              have hl2 : 4 ≤ s.size := by omega
              clear hl
              cases be : ((s.extract 0 4).toList == [116, 114, 117, 101]) with
              | true =>
                rw [if_pos be] at ho
                subst ho
                go_enter Tryd.func67, Tryd.ntmps67
                go_wp2
                go_ret2
                exact VPost.yes rfl (Below.refl _ _)
              | false =>
                rw [be, if_neg (by decide)] at ho
                subst ho
                go_enter Tryd.func67, Tryd.ntmps67
                go_wp2
                go_ret2
                exact VPost.no ⟨_, _, _, rfl⟩ ((Below.refl _ _).alloc (Nat.le_refl _) _)
          · rw [if_neg hc] at ho
            have f116 : ((s[0].toNat : Int) == 116) = false := u8_not (n := 116) (by decide) hc
            clear hc
            by_cases hc : s[0] = 102
            · rw [if_pos hc] at ho
              have f102 : ((s[0].toNat : Int) == 102) = true := by rw [hc]; rfl
              clear hc
              by_cases hl : s.size < 5
              · rw [if_pos hl] at ho
                have bl : decide (((s.size : Nat) : Int) < 5) = true := decide_eq_true (by omega)
                subst ho
                clear hl
                go_enter Tryd.func67, Tryd.ntmps67
                go_wp2
                go_ret2
                exact VPost.no ⟨_, _, _, rfl⟩ ((Below.refl _ _).alloc (Nat.le_refl _) _)
              · rw [if_neg hl] at ho
                have bl : decide (((s.size : Nat) : Int) < 5) = false := decide_eq_false (by omega)
                have hl2 : 5 ≤ s.size := by omega
                clear hl
                cases be : ((s.extract 0 5).toList == [102, 97, 108, 115, 101]) with
                | true =>
                  rw [if_pos be] at ho
                  subst ho
                  go_enter Tryd.func67, Tryd.ntmps67
                  go_wp2
                  go_ret2
                  exact VPost.yes rfl (Below.refl _ _)
                | false =>
                  rw [be, if_neg (by decide)] at ho
                  subst ho
                  go_enter Tryd.func67, Tryd.ntmps67
                  go_wp2
                  go_ret2
                  exact VPost.no ⟨_, _, _, rfl⟩ ((Below.refl _ _).alloc (Nat.le_refl _) _)
            · rw [if_neg hc] at ho
              have f102 : ((s[0].toNat : Int) == 102) = false := u8_not (n := 102) (by decide) hc
              clear hc
              by_cases hc : s[0] = 110
              · rw [if_pos hc] at ho
                have f110 : ((s[0].toNat : Int) == 110) = true := by rw [hc]; rfl
                clear hc
                by_cases hl : s.size < 4
                · rw [if_pos hl] at ho
                  have bl : decide (((s.size : Nat) : Int) < 4) = true := decide_eq_true (by omega)
                  subst ho
                  clear hl
                  go_enter Tryd.func67, Tryd.ntmps67
                  go_wp2
                  go_ret2
                  exact VPost.no ⟨_, _, _, rfl⟩ ((Below.refl _ _).alloc (Nat.le_refl _) _)
                · rw [if_neg hl] at ho
                  have bl : decide (((s.size : Nat) : Int) < 4) = false := decide_eq_false (by omega)
                  have hl2 : 4 ≤ s.size := by omega
                  clear hl
                  cases be : ((s.extract 0 4).toList == [110, 117, 108, 108]) with
                  | true =>
                    rw [if_pos be] at ho
                    subst ho
                    go_enter Tryd.func67, Tryd.ntmps67
                    go_wp2
                    go_ret2
                    exact VPost.yes rfl (Below.refl _ _)
                  | false =>
                    rw [be, if_neg (by decide)] at ho
                    subst ho
                    go_enter Tryd.func67, Tryd.ntmps67
                    go_wp2
                    go_ret2
                    exact VPost.no ⟨_, _, _, rfl⟩ ((Below.refl _ _).alloc (Nat.le_refl _) _)
              · rw [if_neg hc] at ho
                have f110 : ((s[0].toNat : Int) == 110) = false := u8_not (n := 110) (by decide) hc
                clear hc
                rw [← ho] at HN
                clear ho
                cases o with
                | none =>
                  go_enter Tryd.func67, Tryd.ntmps67
                  go_wp2_with (first | (go_at_call 91; refine HN.out.mono ?_; rintro e w1 ⟨hb, t, ty, p, rfl⟩) | go_in)
                  go_ret2
                  exact VPost.no ⟨_, _, _, rfl⟩ (hb.alloc hb.size _)
                | some t =>
                  go_enter Tryd.func67, Tryd.ntmps67
                  go_wp2_with (first | (go_at_call 91; refine HN.out.mono ?_; rintro e w1 ⟨hb, rfl⟩) | go_in)
                  go_ret2
                  exact VPost.yes rfl hb
  · rw [dif_neg h0] at ho
    have b0 : (((s.size : Nat) : Int) == 0) = true := n0_eq (by omega)
    subst ho
    clear h0
    go_enter Tryd.func67, Tryd.ntmps67
    go_wp2
    go_ret2
    exact VPost.no ⟨_, _, _, rfl⟩ ((Below.refl _ _).alloc (Nat.le_refl _) _)
end Go.Proofs.YtnidncohhinjbaaDoor
