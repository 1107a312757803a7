/- The walk of fastjson's validateObject, for any function V that says where a value ends. Conditions: the text takes at most 2^47 - 4096 bytes; the variable ErrSyntax holds an error; validateValue answers as V says. -/
import Derived.Test.YtnidncohhinjbaaDoorFjVal
namespace Go.Proofs.YtnidncohhinjbaaDoor
open Go.RowKit

/-- Behind a member's value: a comma and the next member, or the end. -/
def objE (L : ByteArray → Option ByteArray) (u : ByteArray) : Option ByteArray :=
  if h : 0 < u.size then (if u[0] = 44 then L (u.extract 1 u.size) else if u[0] = 125 then some (u.extract 1 u.size) else none) else none
/-- Behind a member's name. -/
def objC (V : ByteArray → Option ByteArray) (L : ByteArray → Option ByteArray) (t : ByteArray) : Option ByteArray :=
  if h : 0 < t.size then (if t[0] = 58 then (match V (skipF (t.extract 1 t.size)) with | none => none | some u => objE L (skipF u)) else none) else none
def objL (V : ByteArray → Option ByteArray) : Nat → ByteArray → Option ByteArray
  | 0, _ => none
  | j + 1, s =>
    if h : 0 < (skipF s).size then
      (if (skipF s)[0] = 34 then
        (match keyF ((skipF s).extract 1 (skipF s).size) with
        | none => none
        | some (a, t) => if lowB a = true then none else objC V (objL V j) (skipF t))
      else none)
    else none
def objF (V : ByteArray → Option ByteArray) (s : ByteArray) : Option ByteArray :=
  if h : 0 < (skipF s).size then (if (skipF s)[0] = 125 then some ((skipF s).extract 1 (skipF s).size) else objL V ((skipF s).size + 1) (skipF s)) else none
theorem keyL_size : ∀ (k : Nat) (s : ByteArray) (i : Nat) (a t : ByteArray), keyL k s i = some (a, t) → a.size ≤ s.size ∧ t.size < s.size
  | 0, s, i, a, t, h => by simp [keyL] at h
  | k + 1, s, i, a, t, h => by
    unfold keyL at h
    split at h
    · split at h
      · simp only [Option.some.injEq, Prod.mk.injEq] at h
        obtain ⟨rfl, rfl⟩ := h
        simp only [ByteArray.size_extract]
        omega
      · split at h
        · exact strF_size h
        · exact keyL_size k s (i + 1) a t h
    · simp at h
theorem keyF_size {s a t : ByteArray} (h : keyF s = some (a, t)) : a.size ≤ s.size ∧ t.size < s.size := keyL_size _ _ _ _ _ h

set_option maxHeartbeats 40000000 in
set_option maxRecDepth 100000 in
theorem object_any (V : ByteArray → Option ByteArray) (B : Nat) (hB : B ≤ 140737488351232) (hV : VCalls V B) (s : ByteArray) (w : World) (hs : s.size ≤ B) (hG : GLErr w) :
    Calls Tryd.prog 89 #[.string s] w (VPost (objF V s) w) := by
  have HG := Lib.hid hG
  clear hG
  have HV := Lib.hid hV
  clear hV
  obtain ⟨o, ho⟩ : ∃ o, o = objF V s := ⟨_, rfl⟩
  rw [← ho]
  unfold objF at ho
  have H1 : Hid (∀ w, Calls Tryd.prog 66 #[.string s] w fun e w' => e = .returned (.string (skipF s)) ∧ Below w.heap.size w w') := Lib.hid fun w => skip_any s w (by omega)
  have h1 := skipF_size s (by omega)
  generalize skipF s = s1 at ho H1 h1
  by_cases hz : 0 < s1.size
  · rw [dif_pos hz] at ho
    have bz : (((s1.size : Nat) : Int) == 0) = false := n0_ne (by omega)
    obtain ⟨hu1, hu2⟩ := u8_hi s1[0]
    by_cases hc : s1[0] = 125
    · rw [if_pos hc] at ho
      have bc : ((s1[0].toNat : Int) == 125) = true := by rw [hc]; rfl
      subst ho
      clear hc
      go_enter Tryd.func89, Tryd.ntmps89
      go_wp2_with (first | (go_at_call 66; with_reducible refine (H1.out _).mono ?_; rintro e w1 ⟨rfl, hb1⟩) | go_in)
      go_ret2
      exact VPost.yes rfl hb1
    · rw [if_neg hc] at ho
      have bc : ((s1[0].toNat : Int) == 125) = false := u8_not (n := 125) (by decide) hc
      have HO := Lib.hid ho.symm
      clear hc ho
      go_enter Tryd.func89, Tryd.ntmps89
      go_wp2_with (first | (go_at_call 66; with_reducible refine (H1.out _).mono ?_; rintro e w1 ⟨rfl, hb1⟩) | go_in)
      have HB := Lib.hid hb1
      clear hb1 bc bz H1 hu1 hu2
      go_loopg [0] (s1.size + 1) (fun g v0 wc => ∃ r : ByteArray, v0 = .string r ∧ r.size ≤ s1.size ∧ r.size < g ∧ Hid (objL V g r = o) ∧ Hid (Below w.heap.size w wc))
      case atStart => exact ⟨s1, rfl, Nat.le_refl _, by omega, HO, HB⟩
      case round =>
        clear HO HB
        obtain ⟨r, rfl, hrs, hrg, HO, HB⟩ := hrel
        have hf := HO.out
        clear HO
        cases gk with
        | zero => omega
        | succ j =>
        unfold objL at hf
        have H1 : Hid (∀ w, Calls Tryd.prog 66 #[.string r] w fun e w' => e = .returned (.string (skipF r)) ∧ Below w.heap.size w w') := Lib.hid fun w => skip_any r w (by omega)
        have h2 := skipF_size r (by omega)
        generalize skipF r = r1 at hf H1 h2
        by_cases hz : 0 < r1.size
        · rw [dif_pos hz] at hf
          have bz : (((r1.size : Nat) : Int) == 0) = false := n0_ne (by omega)
          obtain ⟨hu1, hu2⟩ := u8_hi r1[0]
          by_cases hc : r1[0] = 34
          · rw [if_pos hc] at hf
            have bc : ((r1[0].toNat : Int) != 34) = false := by rw [hc]; rfl
            clear hc
            have hes : (r1.extract 1 r1.size).size < r1.size := by rw [ByteArray.size_extract]; omega
            have HK : Hid (∀ w2, Below w.heap.size w w2 → Calls Tryd.prog 102 #[.string (r1.extract 1 r1.size)] w2 (SPost (keyF (r1.extract 1 r1.size)) w2)) := Lib.hid fun w2 h => validateKey_any _ w2 (by omega) (HG.out.keep h)
            have hks : ∀ a t, keyF (r1.extract 1 r1.size) = some (a, t) → a.size < r1.size ∧ t.size < r1.size := fun a t h => by have := keyF_size h; omega
            generalize keyF (r1.extract 1 r1.size) = x at hf HK hks
            cases x with
            | none =>
              have e : o = none := hf.symm
              subst e
              clear hf hks
              go_wp2_with (first | (go_at_call 66; with_reducible refine (H1.out _).mono ?_; rintro e w1 ⟨rfl, hb1⟩) | (go_at_call 102; refine (HK.out _ (HB.out.trans (hb1.mono HB.out.size))).mono ?_; rintro e w2 ⟨hb2, a, t, ty, p, rfl⟩) | go_in)
              go_ret2
              have hA := HB.out.trans (hb1.mono HB.out.size)
              have hC := hA.trans (hb2.mono hA.size)
              exact VPost.no ⟨_, _, _, rfl⟩ (hC.alloc hC.size _)
            | some y =>
              obtain ⟨a, t⟩ := y
              obtain ⟨ha, ht⟩ := hks a t rfl
              simp only at hf
              have HF := Lib.hid hf
              clear hf hks
              go_upto_block 2 with (first | (go_at_call 66; with_reducible refine (H1.out _).mono ?_; rintro e w1 ⟨rfl, hb1⟩) | (go_at_call 102; refine (HK.out _ (HB.out.trans (hb1.mono HB.out.size))).mono ?_; rintro e w2 ⟨hb2, rfl⟩) | go_in)
              have hA := HB.out.trans (hb1.mono HB.out.size)
              have HC := Lib.hid (hA.trans (hb2.mono hA.size))
              clear hA
              go_cut [44] (fun v wc => v = .int .i64 a.size ∧ Hid (lowB a = false) ∧ w2 = wc)
              case first =>
                go_wp2
                go_loopg [44] (a.size + 1) (fun g v wc => ∃ i : Nat, v = .int .i64 i ∧ i ≤ a.size ∧ a.size < i + g ∧ Hid (∀ k (hk : k < a.size), k < i → ¬ (a[k].toNat : Int) < 32) ∧ w2 = wc)
                case atStart => exact ⟨0, rfl, Nat.zero_le _, by omega, Lib.hid fun k _ h => absurd h (by omega), rfl⟩
                case round =>
                  obtain ⟨i, rfl, hi, hg, HK, rfl⟩ := hrel
                  by_cases hlt : i < a.size
                  · obtain ⟨hu1, hu2⟩ := u8_hi a[i]
                    by_cases hl : (a[i].toNat : Int) < 32
                    · have bl : decide ((a[i].toNat : Int) < 32) = true := decide_eq_true hl
                      have e : o = none := by rw [← HF.out, if_pos (low_yes hlt hl)]
                      subst e
                      clear hl
                      go_wp2
                      go_ret2
                      exact VPost.no ⟨_, _, _, rfl⟩ (HC.out.alloc HC.out.size _)
                    · have bl : decide ((a[i].toNat : Int) < 32) = false := decide_eq_false hl
                      have HK2 := Lib.hid (fun k (hk : k < a.size) (hki : k < i + 1) => (if e : k = i then by subst e; exact hl else HK.out k hk (by omega) : ¬ (a[k].toNat : Int) < 32))
                      clear hl
                      go_wp2
                      go_roundg (gk - 1)
                      case rel => exact ⟨i + 1, by go_num, hlt, by omega, HK2, rfl⟩
                      case measure => omega
                  · have hle : a.size ≤ i := by omega
                    obtain rfl : i = a.size := by omega
                    have HL := Lib.hid (low_no fun k hk => HK.out k hk (by omega))
                    clear hlt
                    go_wp2
                    go_meet
                    case rel => exact ⟨rfl, HL, rfl⟩
              case rest =>
                obtain ⟨rfl, HL, rfl⟩ := hcut
                have hf := HF.out
                rw [HL.out, if_neg (by decide)] at hf
                unfold objC at hf
                clear HF HL HK hu1 hu2 bc bz
                have H3 : Hid (∀ w, Calls Tryd.prog 66 #[.string t] w fun e w' => e = .returned (.string (skipF t)) ∧ Below w.heap.size w w') := Lib.hid fun w => skip_any t w (by omega)
                have h3 := skipF_size t (by omega)
                generalize skipF t = t1 at hf H3 h3
                by_cases hz1 : 0 < t1.size
                · rw [dif_pos hz1] at hf
                  have bz : (((t1.size : Nat) : Int) == 0) = false := n0_ne (by omega)
                  obtain ⟨hu1, hu2⟩ := u8_hi t1[0]
                  by_cases hc : t1[0] = 58
                  · rw [if_pos hc] at hf
                    have bc : ((t1[0].toNat : Int) != 58) = false := by rw [hc]; rfl
                    clear hc
                    have hes : (t1.extract 1 t1.size).size < t1.size := by rw [ByteArray.size_extract]; omega
                    have H4 : Hid (∀ w, Calls Tryd.prog 66 #[.string (t1.extract 1 t1.size)] w fun e w' => e = .returned (.string (skipF (t1.extract 1 t1.size))) ∧ Below w.heap.size w w') := Lib.hid fun w => skip_any _ w (by omega)
                    have h4 := skipF_size (t1.extract 1 t1.size) (by omega)
                    generalize skipF (t1.extract 1 t1.size) = t2 at hf H4 h4
                    have HVr : Hid (∀ w9, Below w.heap.size w w9 → Calls Tryd.prog 67 #[.string t2] w9 (VPost (V t2) w9)) := Lib.hid fun w9 h => HV.out.1 t2 w9 (by omega) (HG.out.keep h)
                    have hVs := HV.out.2 t2
                    generalize V t2 = v at hf HVr hVs
                    cases v with
                    | none =>
                      have e : o = none := hf.symm
                      subst e
                      clear hf hVs
                      have H5 := H4
                      go_wp2_with (first | (go_at_call 66; with_reducible refine (H3.out _).mono ?_; rintro e w4 ⟨rfl, hb4⟩) | (go_at_call 66; with_reducible refine (H4.out _).mono ?_; rintro e w5 ⟨rfl, hb5⟩) | (go_at_call 67; refine (HVr.out _ (HC.out.trans ((hb4.trans (hb5.mono hb4.size)).mono HC.out.size))).mono ?_; rintro e w6 ⟨hb6, t9, ty, p, rfl⟩) | (go_at_call 66; with_reducible refine (H5.out _).mono ?_; rintro e w7 ⟨rfl, hb7⟩) | go_in)
                      go_ret2
                      have h6 := HC.out.trans ((hb4.trans (hb5.mono hb4.size)).mono HC.out.size)
                      have h7 := h6.trans (hb6.mono h6.size)
                      exact VPost.no ⟨_, _, _, rfl⟩ (h7.alloc h7.size _)
                    | some u =>
                      have h5 := hVs u (by omega) rfl
                      simp only at hf
                      have H5 : Hid (∀ w, Calls Tryd.prog 66 #[.string u] w fun e w' => e = .returned (.string (skipF u)) ∧ Below w.heap.size w w') := Lib.hid fun w => skip_any u w (by omega)
                      have h6 := skipF_size u (by omega)
                      generalize skipF u = u2 at hf H5 h6
                      unfold objE at hf
                      clear hVs
                      by_cases hzu : 0 < u2.size
                      · rw [dif_pos hzu] at hf
                        have bzu : (((u2.size : Nat) : Int) == 0) = false := n0_ne (by omega)
                        obtain ⟨hu3, hu4⟩ := u8_hi u2[0]
                        by_cases hc : u2[0] = 44
                        · rw [if_pos hc] at hf
                          have bcu : ((u2[0].toNat : Int) == 44) = true := by rw [hc]; rfl
                          have h7 : (u2.extract 1 u2.size).size ≤ s1.size := by rw [ByteArray.size_extract]; omega
                          have h8 : (u2.extract 1 u2.size).size < j := by rw [ByteArray.size_extract]; omega
                          have HO := Lib.hid hf
                          have H7 := Lib.hid h7
                          have H8 := Lib.hid h8
                          clear hf hc h7 h8
                          go_wp2_with (first | (go_at_call 66; with_reducible refine (H3.out _).mono ?_; rintro e w4 ⟨rfl, hb4⟩) | (go_at_call 66; with_reducible refine (H4.out _).mono ?_; rintro e w5 ⟨rfl, hb5⟩) | (go_at_call 67; refine (HVr.out _ (HC.out.trans ((hb4.trans (hb5.mono hb4.size)).mono HC.out.size))).mono ?_; rintro e w6 ⟨hb6, rfl⟩) | (go_at_call 66; with_reducible refine (H5.out _).mono ?_; rintro e w7 ⟨rfl, hb7⟩) | go_in)
                          have h6 := HC.out.trans ((hb4.trans (hb5.mono hb4.size)).mono HC.out.size)
                          have h7 := h6.trans (hb6.mono h6.size)
                          have h8 := h7.trans (hb7.mono h7.size)
                          have HB3 := Lib.hid h8
                          go_roundg j
                          case rel => exact ⟨_, rfl, H7.out, H8.out, HO, HB3⟩
                          case measure => omega
                        · rw [if_neg hc] at hf
                          have bcu : ((u2[0].toNat : Int) == 44) = false := u8_not (n := 44) (by decide) hc
                          by_cases hd : u2[0] = 125
                          · rw [if_pos hd] at hf
                            have bd : ((u2[0].toNat : Int) == 125) = true := by rw [hd]; rfl
                            subst hf
                            clear hc hd
                            go_wp2_with (first | (go_at_call 66; with_reducible refine (H3.out _).mono ?_; rintro e w4 ⟨rfl, hb4⟩) | (go_at_call 66; with_reducible refine (H4.out _).mono ?_; rintro e w5 ⟨rfl, hb5⟩) | (go_at_call 67; refine (HVr.out _ (HC.out.trans ((hb4.trans (hb5.mono hb4.size)).mono HC.out.size))).mono ?_; rintro e w6 ⟨hb6, rfl⟩) | (go_at_call 66; with_reducible refine (H5.out _).mono ?_; rintro e w7 ⟨rfl, hb7⟩) | go_in)
                            go_ret2
                            have h6 := HC.out.trans ((hb4.trans (hb5.mono hb4.size)).mono HC.out.size)
                            have h7 := h6.trans (hb6.mono h6.size)
                            have h8 := h7.trans (hb7.mono h7.size)
                            exact VPost.yes rfl h8
                          · rw [if_neg hd] at hf
                            have bd : ((u2[0].toNat : Int) == 125) = false := u8_not (n := 125) (by decide) hd
                            subst hf
                            clear hc hd
                            go_wp2_with (first | (go_at_call 66; with_reducible refine (H3.out _).mono ?_; rintro e w4 ⟨rfl, hb4⟩) | (go_at_call 66; with_reducible refine (H4.out _).mono ?_; rintro e w5 ⟨rfl, hb5⟩) | (go_at_call 67; refine (HVr.out _ (HC.out.trans ((hb4.trans (hb5.mono hb4.size)).mono HC.out.size))).mono ?_; rintro e w6 ⟨hb6, rfl⟩) | (go_at_call 66; with_reducible refine (H5.out _).mono ?_; rintro e w7 ⟨rfl, hb7⟩) | go_in)
                            go_ret2
                            have h6 := HC.out.trans ((hb4.trans (hb5.mono hb4.size)).mono HC.out.size)
                            have h7 := h6.trans (hb6.mono h6.size)
                            have h8 := h7.trans (hb7.mono h7.size)
                            exact VPost.no ⟨_, _, _, rfl⟩ (h8.alloc h8.size _)
                      · rw [dif_neg hzu] at hf
                        have bzu : (((u2.size : Nat) : Int) == 0) = true := n0_eq (by omega)
                        subst hf
                        clear hzu
                        go_wp2_with (first | (go_at_call 66; with_reducible refine (H3.out _).mono ?_; rintro e w4 ⟨rfl, hb4⟩) | (go_at_call 66; with_reducible refine (H4.out _).mono ?_; rintro e w5 ⟨rfl, hb5⟩) | (go_at_call 67; refine (HVr.out _ (HC.out.trans ((hb4.trans (hb5.mono hb4.size)).mono HC.out.size))).mono ?_; rintro e w6 ⟨hb6, rfl⟩) | (go_at_call 66; with_reducible refine (H5.out _).mono ?_; rintro e w7 ⟨rfl, hb7⟩) | go_in)
                        go_ret2
                        have h6 := HC.out.trans ((hb4.trans (hb5.mono hb4.size)).mono HC.out.size)
                        have h7 := h6.trans (hb6.mono h6.size)
                        have h8 := h7.trans (hb7.mono h7.size)
                        exact VPost.no ⟨_, _, _, rfl⟩ (h8.alloc h8.size _)
                  · rw [if_neg hc] at hf
                    have bc : ((t1[0].toNat : Int) != 58) = true := by
                      have := u8_not (n := 58) (by decide) hc
                      simpa using this
                    subst hf
                    clear hc
                    go_wp2_with (first | (go_at_call 66; with_reducible refine (H3.out _).mono ?_; rintro e w4 ⟨rfl, hb4⟩) | go_in)
                    go_ret2
                    have h5 := HC.out.trans (hb4.mono HC.out.size)
                    exact VPost.no ⟨_, _, _, rfl⟩ (h5.alloc h5.size _)
                · rw [dif_neg hz1] at hf
                  have bz : (((t1.size : Nat) : Int) == 0) = true := n0_eq (by omega)
                  subst hf
                  clear hz1
                  go_wp2_with (first | (go_at_call 66; with_reducible refine (H3.out _).mono ?_; rintro e w4 ⟨rfl, hb4⟩) | go_in)
                  go_ret2
                  have h5 := HC.out.trans (hb4.mono HC.out.size)
                  exact VPost.no ⟨_, _, _, rfl⟩ (h5.alloc h5.size _)
          · rw [if_neg hc] at hf
            have bc : ((r1[0].toNat : Int) != 34) = true := by
              have := u8_not (n := 34) (by decide) hc
              simpa using this
            subst hf
            clear hc
            go_wp2_with (first | (go_at_call 66; with_reducible refine (H1.out _).mono ?_; rintro e w1 ⟨rfl, hb1⟩) | go_in)
            go_ret2
            have hA := HB.out.trans (hb1.mono HB.out.size)
            exact VPost.no ⟨_, _, _, rfl⟩ (hA.alloc hA.size _)
        · rw [dif_neg hz] at hf
          have bz : (((r1.size : Nat) : Int) == 0) = true := n0_eq (by omega)
          subst hf
          clear hz
          go_wp2_with (first | (go_at_call 66; with_reducible refine (H1.out _).mono ?_; rintro e w1 ⟨rfl, hb1⟩) | go_in)
          go_ret2
          have hA := HB.out.trans (hb1.mono HB.out.size)
          exact VPost.no ⟨_, _, _, rfl⟩ (hA.alloc hA.size _)
  · rw [dif_neg hz] at ho
    have bz : (((s1.size : Nat) : Int) == 0) = true := n0_eq (by omega)
    subst ho
    clear hz
    go_enter Tryd.func89, Tryd.ntmps89
    go_wp2_with (first | (go_at_call 66; with_reducible refine (H1.out _).mono ?_; rintro e w1 ⟨rfl, hb1⟩) | go_in)
    go_ret2
    exact VPost.no ⟨_, _, _, rfl⟩ (hb1.alloc hb1.size _)
end Go.Proofs.YtnidncohhinjbaaDoor
