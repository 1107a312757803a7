/- The walk of fastjson's validateNumber, as a function of bytes: where the number ends, or that none stands there. Condition: the text takes at most 2^47 - 4096 bytes. -/
import Derived.Test.YtnidncohhinjbaaDoorProg
import Derived.WalkKit
import Derived.WalkSpells
import Derived.WalkSmall
import Derived.Deep.QuietTactic
import Derived.BigQuiet
import Derived.Deep.DeepCutAuto
import Derived.Deep.CutBlock
import Derived.Deep.LoopGhost
import Derived.IntWalk
import Derived.Lib.Hide
import Derived.Outline
import Derived.Lib.Strings
namespace Go.Proofs.YtnidncohhinjbaaDoor
open Go.RowKit

/-- How a check ends: the rest of the text, or an error. -/
def VPost (o : Option ByteArray) (w : World) (e : Ending) (w' : World) : Prop :=
  Below w.heap.size w w' ∧ match o with | some t => e = .returned (.tuple #[.string t, .nilIface]) | none => ∃ t ty p, e = .returned (.tuple #[.string t, .iface ty p])
theorem VPost.yes {t : ByteArray} {w w' : World} {e : Ending} (h : e = .returned (.tuple #[.string t, .nilIface])) (hb : Below w.heap.size w w') : VPost (some t) w e w' := ⟨hb, h⟩
theorem VPost.no {w w' : World} {e : Ending} (h : ∃ t ty p, e = .returned (.tuple #[.string t, .iface ty p])) (hb : Below w.heap.size w w') : VPost none w e w' := ⟨hb, h⟩

def isDig (c : UInt8) : Bool := decide (48 ≤ c.toNat) && decide (c.toNat ≤ 57)
/-- How many digits the text begins with. -/
def digN (s : ByteArray) : Nat := (s.data.toList.takeWhile isDig).length
theorem digN_le (s : ByteArray) : digN s ≤ s.size := by
  have := (List.takeWhile_sublist (l := s.data.toList) isDig).length_le
  unfold digN
  simpa using this
theorem tw_in {p : UInt8 → Bool} : ∀ (l : List UInt8) (j : Nat) (h : j < l.length), j < (l.takeWhile p).length → p l[j] = true
  | [], j, h, _ => by simp at h
  | c :: r, j, h, hj => by
    rw [List.takeWhile_cons] at hj
    split at hj
    · rename_i hc
      cases j with
      | zero => simpa using hc
      | succ j =>
        simp only [List.length_cons] at hj h
        simpa using tw_in r j (by omega) (by omega)
    · simp at hj
theorem tw_end {p : UInt8 → Bool} : ∀ (l : List UInt8) (h : (l.takeWhile p).length < l.length), p (l[(l.takeWhile p).length]) = false
  | [], h => by simp at h
  | c :: r, h => by
    by_cases hc : p c = true
    · have e : (c :: r).takeWhile p = c :: r.takeWhile p := by rw [List.takeWhile_cons, if_pos hc]
      simp only [e, List.length_cons, List.getElem_cons_succ]
      exact tw_end r (by rw [e] at h; simpa using h)
    · have e : (c :: r).takeWhile p = [] := by rw [List.takeWhile_cons, if_neg hc]
      simp only [e, List.length_nil, List.getElem_cons_zero]
      simpa using hc
theorem digN_in (s : ByteArray) (j : Nat) (h : j < s.size) (hj : j < digN s) : 48 ≤ (s[j].toNat : Int) ∧ (s[j].toNat : Int) ≤ 57 := by
  have := tw_in s.data.toList j (by simpa using h) hj
  unfold isDig at this
  simp only [Bool.and_eq_true, decide_eq_true_eq] at this
  have e : s.data.toList[j]'(by simpa using h) = s[j] := rfl
  rw [e] at this
  omega
theorem digN_end (s : ByteArray) (h : digN s < s.size) : ¬ (48 ≤ (s[digN s].toNat : Int) ∧ (s[digN s].toNat : Int) ≤ 57) := by
  have h' : (s.data.toList.takeWhile isDig).length < s.data.toList.length := by
    have e : s.data.toList.length = s.size := by simp
    rw [e]
    exact h
  have := tw_end (p := isDig) s.data.toList h'
  intro hh
  rw [Bool.eq_false_iff] at this
  apply this
  have e : s.data.toList[(s.data.toList.takeWhile isDig).length]'h' = s[digN s] := rfl
  rw [e]
  unfold isDig
  simp only [Bool.and_eq_true, decide_eq_true_eq]
  omega

/-- Behind the digits (ahead of the end) an exponent may stand. -/
def numExp (s : ByteArray) (i : Nat) : Option ByteArray :=
  if h : i < s.size then
    (if s[i] = 101 ∨ s[i] = 69 then
      (let t := s.extract (i + 1) s.size
       if h0 : 0 < t.size then
        (if t[0] = 45 ∨ t[0] = 43 then
          (let u := t.extract 1 t.size
           if u.size = 0 then none else if digN u = 0 then none else if u.size ≤ digN u then some ⟨#[]⟩ else some (u.extract (digN u) u.size))
        else if digN t = 0 then none else if t.size ≤ digN t then some ⟨#[]⟩ else some (t.extract (digN t) t.size))
      else none)
    else some (s.extract i s.size))
  else some ⟨#[]⟩
/-- Behind the digits a point and digits may stand. -/
def numFrac (s : ByteArray) (i : Nat) : Option ByteArray :=
  if h : i < s.size then
    (if s[i] = 46 then
      (let t := s.extract (i + 1) s.size
       if t.size = 0 then none else if digN t = 0 then none else numExp t (digN t))
    else numExp s i)
  else some ⟨#[]⟩
def numDig (s : ByteArray) : Option ByteArray :=
  if h : 0 < s.size then (if digN s = 0 then none else if s[0] = 48 ∧ digN s ≠ 1 then none else numFrac s (digN s)) else none
def numF (s : ByteArray) : Option ByteArray := if h : 0 < s.size then (if s[0] = 45 then numDig (s.extract 1 s.size) else numDig s) else none

theorem errNew (t : ByteArray) (w : World) : Calls Tryd.prog 46 #[.string t] w fun e w' => ∃ ty p, e = .returned (.iface ty p) ∧ Below w.heap.size w w' := by
  go_enter Tryd.func46, Tryd.ntmps46
  go_wp2
  go_ret
  exact ⟨_, _, rfl, (Below.refl _ _).alloc (Nat.le_refl _) _⟩

theorem n0_ne {a : Nat} (h : ¬ a = 0) : (((a : Nat) : Int) == 0) = false := by simpa using h
theorem n0_eq {a : Nat} (h : a = 0) : (((a : Nat) : Int) == 0) = true := by simpa using h
theorem u8_not {c : UInt8} {n : Nat} (hn : n < 256) (h : ¬ c = UInt8.ofNat n) : ((c.toNat : Int) == (n : Int)) = false := by
  simp only [beq_eq_false_iff_ne]
  intro e
  apply h
  apply UInt8.toNat_inj.1
  rw [UInt8.toNat_ofNat_of_lt' (by simpa using hn)]
  omega
theorem u8_hi (c : UInt8) : (0 : Int) ≤ (c.toNat : Int) ∧ (c.toNat : Int) ≤ 255 := by have := c.toNat_lt; omega

set_option maxHeartbeats 4000000 in
set_option maxRecDepth 100000 in
theorem validateNumber_any (s : ByteArray) (w : World) (hs : s.size ≤ 140737488351232) :
    Calls Tryd.prog 91 #[.string s] w (VPost (numF s) w) := by
  by_cases h0 : 0 < s.size
  · obtain ⟨hu1, hu2⟩ := u8_hi s[0]
    have b0 : (((s.size : Nat) : Int) == 0) = false := n0_ne (by omega)
    obtain ⟨o, ho⟩ : ∃ o, o = numF s := ⟨_, rfl⟩
    rw [← ho]
    obtain ⟨t, ht⟩ : ∃ t, t = if s[0] = 45 then s.extract 1 s.size else s := ⟨_, rfl⟩
    have hof : o = numDig t := by
      rw [ho, ht]
      unfold numF
      rw [dif_pos h0]
      split <;> rfl
    have HO := Lib.hid hof
    have HT := Lib.hid ht
    have htl : t.size ≤ 140737488351232 := by
      rw [ht]
      split
      · rw [ByteArray.size_extract]; omega
      · exact hs
    clear ho ht hof
    go_enter Tryd.func91, Tryd.ntmps91
    go_upto_if 12 with (fail)
    go_cut [0] (fun v0 wc => v0 = .string t ∧ 0 < t.size ∧ w = wc)
    case first =>
      by_cases hm : s[0] = 45
      · have bm : ((s[0].toNat : Int) == 45) = true := by rw [hm]; rfl
        have e : t = s.extract 1 s.size := by rw [HT.out, if_pos hm]
        have HE := Lib.hid e
        have hts : t.size = s.size - 1 := by rw [e, ByteArray.size_extract]; omega
        clear hm e
        by_cases ht0 : t.size = 0
        · have bt0 : (((s.size - 1 : Nat) : Int) == 0) = true := n0_eq (by omega)
          have e2 : o = none := by rw [HO.out]; unfold numDig; rw [dif_neg (by omega)]
          subst e2
          clear ht0 hts
          go_wp2
          go_ret2
          exact VPost.no ⟨_, _, _, rfl⟩ ((Below.refl _ _).alloc (Nat.le_refl _) _)
        · have bt0 : (((s.size - 1 : Nat) : Int) == 0) = false := n0_ne (by omega)
          have ht1 : 0 < t.size := by omega
          clear ht0 hts
          go_wp2
          go_meet
          case rel => exact ⟨by rw [HE.out], ht1, rfl⟩
      · have bm : ((s[0].toNat : Int) == 45) = false := u8_not (n := 45) (by decide) hm
        have e : t = s := by rw [HT.out, if_neg hm]
        clear hm
        go_wp2
        go_meet
        case rel => exact ⟨by rw [e], by rw [e]; exact h0, rfl⟩
    case rest =>
      obtain ⟨rfl, ht0, rfl⟩ := hcut
      clear HT hu1 hu2 b0
      obtain ⟨n, hn⟩ : ∃ n, n = digN t := ⟨_, rfl⟩
      have hnl : n ≤ t.size := by rw [hn]; exact digN_le t
      have HN := Lib.hid hn
      clear hn
      go_upto_block 0 with (fail)
      go_cut [4] (fun v4 wc => v4 = .int .i64 n ∧ w = wc)
      case first =>
        go_wp2
        go_loop [4] (fun v4 => ∃ k : Nat, k ≤ n ∧ v4 = .int .i64 k) (fun v4 => n - (intOf v4).toNat)
        case atStart => exact ⟨0, Nat.zero_le _, rfl⟩
        case round =>
          obtain ⟨k, hk, rfl⟩ := hrel
          by_cases hkn : k < n
          · have hks : k < t.size := by omega
            obtain ⟨d1, d2⟩ := digN_in t k hks (by rw [← HN.out]; exact hkn)
            have b1 : decide ((t[k].toNat : Int) < 48) = false := decide_eq_false (by omega)
            have b2 : decide (57 < (t[k].toNat : Int)) = false := decide_eq_false (by omega)
            go_wp2
            go_round
            case rel => exact ⟨k + 1, hkn, by go_num⟩
            case measure => simp [intOf]; omega
          · obtain rfl : k = n := by omega
            by_cases hks : k < t.size
            · have hne : ¬ (48 ≤ (t[k].toNat : Int) ∧ (t[k].toNat : Int) ≤ 57) := by
                have := digN_end t (by rw [← HN.out]; exact hks)
                simpa only [← HN.out] using this
              obtain ⟨hu1, hu2⟩ := u8_hi t[k]
              by_cases hlo : (t[k].toNat : Int) < 48
              · have b1 : decide ((t[k].toNat : Int) < 48) = true := decide_eq_true hlo
                clear hne hkn
                go_wp2
                go_meet
                case rel => exact ⟨rfl, rfl⟩
              · have b1 : decide ((t[k].toNat : Int) < 48) = false := decide_eq_false hlo
                have b2 : decide (57 < (t[k].toNat : Int)) = true := decide_eq_true (by omega)
                clear hne hkn
                go_wp2
                go_meet
                case rel => exact ⟨rfl, rfl⟩
            · have hks2 : t.size ≤ k := by omega
              clear hkn hks
              go_wp2
              go_meet
              case rel => exact ⟨rfl, rfl⟩
      case rest =>
        obtain ⟨rfl, rfl⟩ := hcut
        obtain ⟨hu1, hu2⟩ := u8_hi t[0]
        by_cases hn0 : n = 0
        · have bn : decide ((n : Int) ≤ 0) = true := decide_eq_true (by omega)
          have e2 : o = none := by rw [HO.out]; unfold numDig; rw [dif_pos ht0, if_pos (by rw [← HN.out]; exact hn0)]
          subst e2
          subst hn0
          go_wp2
          go_ret2
          exact VPost.no ⟨_, _, _, rfl⟩ ((Below.refl _ _).alloc (Nat.le_refl _) _)
        · have hn1 : 0 < n := by omega
          have bn : decide ((n : Int) ≤ 0) = false := decide_eq_false (by omega)
          by_cases hz : t[0] = 48 ∧ n ≠ 1
          · obtain ⟨hz1, hz2⟩ := hz
            have bz1 : ((t[0].toNat : Int) == 48) = true := by rw [hz1]; rfl
            have bz2 : (((n : Nat) : Int) != 1) = true := by simpa using (show ¬ ((n : Nat) : Int) = 1 by omega)
            have e2 : o = none := by rw [HO.out]; unfold numDig; rw [dif_pos ht0, if_neg (by rw [← HN.out]; exact hn0), if_pos ⟨hz1, by rw [← HN.out]; exact hz2⟩]
            subst e2
            clear hn0 hz1 hz2
            go_wp2
            go_ret2
            exact VPost.no ⟨_, _, _, rfl⟩ ((Below.refl _ _).alloc (Nat.le_refl _) _)
          · have e2 : o = numFrac t n := by rw [HO.out]; unfold numDig; rw [dif_pos ht0, if_neg (by rw [← HN.out]; exact hn0), if_neg (by rw [← HN.out]; exact hz), ← HN.out]
            have HO2 := Lib.hid e2
            clear e2 HO
            -- the test on a first nought, decided by its two sides
            have hzb : (((t[0].toNat : Int) == 48) = false) ∨ (((t[0].toNat : Int) == 48) = true ∧ (((n : Nat) : Int) != 1) = false) := by
              by_cases h48 : t[0] = 48
              · right
                refine ⟨by rw [h48]; rfl, ?_⟩
                have : n = 1 := by
                  by_cases h : n = 1
                  · exact h
                  · exact absurd ⟨h48, h⟩ hz
                rw [this]; rfl
              · left
                exact u8_not (n := 48) (by decide) h48
            clear hz hn0
            have HZB := Lib.hid hzb
            clear hzb
            go_upto_region 13 with (fail)
            go_cut [46] (fun v46 wc => v46 = .bool false ∧ w = wc)
            case first =>
              rcases HZB.out with hzb | ⟨hz1, hz2⟩
              · go_wp2
                go_meet
                case rel => exact ⟨rfl, rfl⟩
              · go_wp2
                go_meet
                case rel => exact ⟨rfl, rfl⟩
            case rest =>
              obtain ⟨rfl, rfl⟩ := hcut
              clear HZB bn hu1 hu2
              by_cases hns : n < t.size
              · obtain ⟨hu1, hu2⟩ := u8_hi t[n]
                go_upto_if 56 with (fail)
                go_cut [0, 4] (fun v0 v4 wc => ∃ (u : ByteArray) (j : Nat), v0 = .string u ∧ v4 = .int .i64 j ∧ j < u.size ∧ u.size ≤ 140737488351232 ∧ Hid (o = numExp u j) ∧ w = wc)
                case first =>
                  by_cases hp : t[n] = 46
                  · have bp : ((t[n].toNat : Int) == 46) = true := by rw [hp]; rfl
                    obtain ⟨u, hu⟩ : ∃ u, u = t.extract (n + 1) t.size := ⟨_, rfl⟩
                    have hus : u.size = t.size - (n + 1) := by rw [hu, ByteArray.size_extract]; omega
                    have e3 : o = if u.size = 0 then none else if digN u = 0 then none else numExp u (digN u) := by rw [HO2.out, hu]; unfold numFrac; rw [dif_pos hns, if_pos hp]
                    have HU := Lib.hid hu
                    have HUS := Lib.hid hus
                    clear hu hus hp HO2
                    by_cases hu0 : u.size = 0
                    · have b3 : (((t.size - (n + 1) : Nat) : Int) == 0) = true := n0_eq (by rw [← HUS.out]; exact hu0)
                      rw [if_pos hu0] at e3
                      subst e3
                      clear hu0
                      go_wp2
                      go_ret2
                      exact VPost.no ⟨_, _, _, rfl⟩ ((Below.refl _ _).alloc (Nat.le_refl _) _)
                    · have b3 : (((t.size - (n + 1) : Nat) : Int) == 0) = false := n0_ne (by rw [← HUS.out]; exact hu0)
                      have b4 : (((u.size : Nat) : Int) == 0) = false := n0_ne hu0
                      rw [if_neg hu0] at e3
                      have E3 := Lib.hid e3
                      clear hu0 e3
                      have hul : u.size ≤ 140737488351232 := by have := HUS.out; omega
                      obtain ⟨m, hm⟩ : ∃ m, m = digN u := ⟨_, rfl⟩
                      have hml : m ≤ u.size := by rw [hm]; exact digN_le u
                      have HM := Lib.hid hm
                      clear hm
                      go_upto_block 2 with (fail)
                      rw [← HU.out]
                      have bd : decide (t.size ≤ n) = false := decide_eq_false (by omega)
                      simp only [bd, bp]
                      go_cut [4] (fun v4 wc => v4 = .int .i64 m ∧ w = wc)
                      case first =>
                        go_wp2
                        go_loop [4] (fun v4 => ∃ k : Nat, k ≤ m ∧ v4 = .int .i64 k) (fun v4 => m - (intOf v4).toNat)
                        case atStart => exact ⟨0, Nat.zero_le _, rfl⟩
                        case round =>
                          obtain ⟨k, hk, rfl⟩ := hrel
                          by_cases hkn : k < m
                          · have hks : k < u.size := by omega
                            obtain ⟨d1, d2⟩ := digN_in u k hks (by rw [← HM.out]; exact hkn)
                            have b1 : decide ((u[k].toNat : Int) < 48) = false := decide_eq_false (by omega)
                            have b2 : decide (57 < (u[k].toNat : Int)) = false := decide_eq_false (by omega)
                            go_wp2
                            go_round
                            case rel => exact ⟨k + 1, hkn, by go_num⟩
                            case measure => simp [intOf]; omega
                          · obtain rfl : k = m := by omega
                            by_cases hks : k < u.size
                            · have hne : ¬ (48 ≤ (u[k].toNat : Int) ∧ (u[k].toNat : Int) ≤ 57) := by
                                have := digN_end u (by rw [← HM.out]; exact hks)
                                simpa only [← HM.out] using this
                              obtain ⟨hu1, hu2⟩ := u8_hi u[k]
                              by_cases hlo : (u[k].toNat : Int) < 48
                              · have b1 : decide ((u[k].toNat : Int) < 48) = true := decide_eq_true hlo
                                clear hne hkn
                                go_wp2
                                go_meet
                                case rel => exact ⟨rfl, rfl⟩
                              · have b1 : decide ((u[k].toNat : Int) < 48) = false := decide_eq_false hlo
                                have b2 : decide (57 < (u[k].toNat : Int)) = true := decide_eq_true (by omega)
                                clear hne hkn
                                go_wp2
                                go_meet
                                case rel => exact ⟨rfl, rfl⟩
                            · have hks2 : u.size ≤ k := by omega
                              clear hkn hks
                              go_wp2
                              go_meet
                              case rel => exact ⟨rfl, rfl⟩
                      case rest =>
                        obtain ⟨rfl, rfl⟩ := hcut
                        by_cases hm0 : m = 0
                        · have bm : (((m : Nat) : Int) == 0) = true := n0_eq hm0
                          have e4 : o = none := by rw [E3.out, if_pos (by rw [← HM.out]; exact hm0)]
                          subst e4
                          clear hm0
                          go_wp2
                          go_ret2
                          exact VPost.no ⟨_, _, _, rfl⟩ ((Below.refl _ _).alloc (Nat.le_refl _) _)
                        · have bm : (((m : Nat) : Int) == 0) = false := n0_ne hm0
                          have e4 : o = numExp u m := by rw [E3.out, if_neg (by rw [← HM.out]; exact hm0), ← HM.out]
                          have E4 := Lib.hid e4
                          clear hm0 e4 E3
                          by_cases hmu : m < u.size
                          · go_wp2
                            go_meet
                            case rel => exact ⟨u, m, rfl, rfl, hmu, hul, E4, rfl⟩
                          · have hmu2 : u.size ≤ m := by omega
                            have e5 : o = some ⟨#[]⟩ := by rw [E4.out]; unfold numExp; rw [dif_neg hmu]
                            subst e5
                            clear hmu E4
                            go_wp2
                            go_ret2
                            exact VPost.yes rfl (Below.refl _ _)
                  · have bp : ((t[n].toNat : Int) == 46) = false := u8_not (n := 46) (by decide) hp
                    have e3 : o = numExp t n := by rw [HO2.out]; unfold numFrac; rw [dif_pos hns, if_neg hp]
                    have E3 := Lib.hid e3
                    clear hp e3 HO2
                    go_wp2
                    go_meet
                    case rel => exact ⟨t, n, rfl, rfl, hns, htl, E3, rfl⟩
                case rest =>
                  obtain ⟨u, j, rfl, rfl, hju, hul, HE, rfl⟩ := hcut
                  clear HO2 hu1 hu2
                  obtain ⟨hu1, hu2⟩ := u8_hi u[j]
                  obtain ⟨b, hb⟩ : ∃ b, b = decide (u[j] = 101 ∨ u[j] = 69) := ⟨_, rfl⟩
                  have HB := Lib.hid hb
                  clear hb
                  go_upto_region 29 with (fail)
                  go_cut [99] (fun v99 wc => v99 = .bool b ∧ w = wc)
                  case first =>
                    by_cases h1 : u[j] = 101
                    · have b1 : ((u[j].toNat : Int) == 101) = true := by rw [h1]; rfl
                      have e : b = true := by rw [HB.out]; exact decide_eq_true (.inl h1)
                      subst e
                      clear h1
                      go_wp2
                      go_meet
                      case rel => exact ⟨rfl, rfl⟩
                    · have b1 : ((u[j].toNat : Int) == 101) = false := u8_not (n := 101) (by decide) h1
                      by_cases h2 : u[j] = 69
                      · have b2 : ((u[j].toNat : Int) == 69) = true := by rw [h2]; rfl
                        have e : b = true := by rw [HB.out]; exact decide_eq_true (.inr h2)
                        subst e
                        clear h1 h2
                        go_wp2
                        go_meet
                        case rel => exact ⟨rfl, rfl⟩
                      · have b2 : ((u[j].toNat : Int) == 69) = false := u8_not (n := 69) (by decide) h2
                        have e : b = false := by rw [HB.out]; exact decide_eq_false (by rintro (h | h) <;> contradiction)
                        subst e
                        clear h1 h2
                        go_wp2
                        go_meet
                        case rel => exact ⟨rfl, rfl⟩
                  case rest =>
                    obtain ⟨rfl, rfl⟩ := hcut
                    clear hu1 hu2
                    cases b with
                    | false =>
                      have e : o = some (u.extract j u.size) := by rw [HE.out]; unfold numExp; rw [dif_pos hju, if_neg (by simpa using HB.out)]
                      subst e
                      clear HE HB
                      go_wp2
                      go_ret2
                      exact VPost.yes rfl (Below.refl _ _)
                    | true =>
                      obtain ⟨x, hx⟩ : ∃ x, x = u.extract (j + 1) u.size := ⟨_, rfl⟩
                      have hxs : x.size = u.size - (j + 1) := by rw [hx, ByteArray.size_extract]; omega
                      have e : o = if h0 : 0 < x.size then (if x[0] = 45 ∨ x[0] = 43 then (let u := x.extract 1 x.size; if u.size = 0 then none else if digN u = 0 then none else if u.size ≤ digN u then some ⟨#[]⟩ else some (u.extract (digN u) u.size)) else if digN x = 0 then none else if x.size ≤ digN x then some ⟨#[]⟩ else some (x.extract (digN x) x.size)) else none := by rw [HE.out, hx]; unfold numExp; rw [dif_pos hju, if_pos (by simpa using HB.out)]
                      have HX := Lib.hid hx
                      have HXS := Lib.hid hxs
                      clear hx hxs HE HB
                      by_cases hx0 : x.size = 0
                      · have b3 : (((u.size - (j + 1) : Nat) : Int) == 0) = true := n0_eq (by rw [← HXS.out]; exact hx0)
                        rw [dif_neg (by omega)] at e
                        subst e
                        clear hx0
                        go_wp2
                        go_ret2
                        exact VPost.no ⟨_, _, _, rfl⟩ ((Below.refl _ _).alloc (Nat.le_refl _) _)
                      · have b3 : (((u.size - (j + 1) : Nat) : Int) == 0) = false := n0_ne (by rw [← HXS.out]; exact hx0)
                        have b4 : (((x.size : Nat) : Int) == 0) = false := n0_ne hx0
                        have hx1 : 0 < x.size := by omega
                        have hxl : x.size ≤ 140737488351232 := by have := HXS.out; omega
                        rw [dif_pos hx1] at e
                        have E := Lib.hid e
                        clear hx0 e
                        obtain ⟨hu1, hu2⟩ := u8_hi x[0]
                        obtain ⟨b, hb⟩ : ∃ b, b = decide (x[0] = 45 ∨ x[0] = 43) := ⟨_, rfl⟩
                        have HB := Lib.hid hb
                        clear hb
                        go_upto_region 33 with (fail)
                        rw [← HX.out]
                        go_cut [116] (fun v116 wc => v116 = .bool b ∧ w = wc)
                        case first =>
                          by_cases h1 : x[0] = 45
                          · have b1 : ((x[0].toNat : Int) == 45) = true := by rw [h1]; rfl
                            have e : b = true := by rw [HB.out]; exact decide_eq_true (.inl h1)
                            subst e
                            clear h1
                            go_wp2
                            go_meet
                            case rel => exact ⟨rfl, rfl⟩
                          · have b1 : ((x[0].toNat : Int) == 45) = false := u8_not (n := 45) (by decide) h1
                            by_cases h2 : x[0] = 43
                            · have b2 : ((x[0].toNat : Int) == 43) = true := by rw [h2]; rfl
                              have e : b = true := by rw [HB.out]; exact decide_eq_true (.inr h2)
                              subst e
                              clear h1 h2
                              go_wp2
                              go_meet
                              case rel => exact ⟨rfl, rfl⟩
                            · have b2 : ((x[0].toNat : Int) == 43) = false := u8_not (n := 43) (by decide) h2
                              have e : b = false := by rw [HB.out]; exact decide_eq_false (by rintro (h | h) <;> contradiction)
                              subst e
                              clear h1 h2
                              go_wp2
                              go_meet
                              case rel => exact ⟨rfl, rfl⟩
                        case rest =>
                          obtain ⟨rfl, rfl⟩ := hcut
                          clear hu1 hu2 b3 b4
                          obtain ⟨y, hy⟩ : ∃ y, y = if b = true then x.extract 1 x.size else x := ⟨_, rfl⟩
                          have HY := Lib.hid hy
                          have hyl : y.size ≤ 140737488351232 := by
                            rw [hy]
                            split
                            · rw [ByteArray.size_extract]; omega
                            · exact hxl
                          clear hy
                          go_upto_if 116 with (fail)
                          go_cut [0] (fun v0 wc => v0 = .string y ∧ Hid (o = if digN y = 0 then none else if y.size ≤ digN y then some ⟨#[]⟩ else some (y.extract (digN y) y.size)) ∧ w = wc)
                          case first =>
                            cases b with
                            | true =>
                              have ey : y = x.extract 1 x.size := by rw [HY.out, if_pos rfl]
                              have hys : y.size = x.size - 1 := by rw [ey, ByteArray.size_extract]; omega
                              have e : o = if y.size = 0 then none else if digN y = 0 then none else if y.size ≤ digN y then some ⟨#[]⟩ else some (y.extract (digN y) y.size) := by rw [E.out, ey]; exact if_pos (by simpa using HB.out)
                              have EY := Lib.hid ey
                              clear ey E HY
                              by_cases hy0 : y.size = 0
                              · have b3 : (((x.size - 1 : Nat) : Int) == 0) = true := n0_eq (by omega)
                                rw [if_pos hy0] at e
                                subst e
                                clear hy0 hys
                                go_wp2
                                go_ret2
                                exact VPost.no ⟨_, _, _, rfl⟩ ((Below.refl _ _).alloc (Nat.le_refl _) _)
                              · have b3 : (((x.size - 1 : Nat) : Int) == 0) = false := n0_ne (by omega)
                                rw [if_neg hy0] at e
                                have E := Lib.hid e
                                clear hy0 hys e
                                go_wp2
                                go_meet
                                case rel => exact ⟨by rw [EY.out], E, rfl⟩
                            | false =>
                              have ey : y = x := by rw [HY.out]; rfl
                              have e : o = if digN y = 0 then none else if y.size ≤ digN y then some ⟨#[]⟩ else some (y.extract (digN y) y.size) := by rw [E.out, ey]; exact if_neg (by simpa using HB.out)
                              have E3 := Lib.hid e
                              have EY := Lib.hid ey
                              clear ey e HY E
                              go_wp2
                              go_meet
                              case rel => exact ⟨by rw [EY.out], E3, rfl⟩
                          case rest =>
                            obtain ⟨rfl, E2, rfl⟩ := hcut
                            clear E HB HY
                            obtain ⟨m, hm⟩ : ∃ m, m = digN y := ⟨_, rfl⟩
                            have hml : m ≤ y.size := by rw [hm]; exact digN_le y
                            have HM := Lib.hid hm
                            clear hm
                            go_upto_block 4 with (fail)
                            go_cut [4] (fun v4 wc => v4 = .int .i64 m ∧ w = wc)
                            case first =>
                              go_wp2
                              go_loop [4] (fun v4 => ∃ k : Nat, k ≤ m ∧ v4 = .int .i64 k) (fun v4 => m - (intOf v4).toNat)
                              case atStart => exact ⟨0, Nat.zero_le _, rfl⟩
                              case round =>
                                obtain ⟨k, hk, rfl⟩ := hrel
                                by_cases hkn : k < m
                                · have hks : k < y.size := by omega
                                  obtain ⟨d1, d2⟩ := digN_in y k hks (by rw [← HM.out]; exact hkn)
                                  have b1 : decide ((y[k].toNat : Int) < 48) = false := decide_eq_false (by omega)
                                  have b2 : decide (57 < (y[k].toNat : Int)) = false := decide_eq_false (by omega)
                                  go_wp2
                                  go_round
                                  case rel => exact ⟨k + 1, hkn, by go_num⟩
                                  case measure => simp [intOf]; omega
                                · obtain rfl : k = m := by omega
                                  by_cases hks : k < y.size
                                  · have hne : ¬ (48 ≤ (y[k].toNat : Int) ∧ (y[k].toNat : Int) ≤ 57) := by
                                      have := digN_end y (by rw [← HM.out]; exact hks)
                                      simpa only [← HM.out] using this
                                    obtain ⟨hu1, hu2⟩ := u8_hi y[k]
                                    by_cases hlo : (y[k].toNat : Int) < 48
                                    · have b1 : decide ((y[k].toNat : Int) < 48) = true := decide_eq_true hlo
                                      clear hne hkn
                                      go_wp2
                                      go_meet
                                      case rel => exact ⟨rfl, rfl⟩
                                    · have b1 : decide ((y[k].toNat : Int) < 48) = false := decide_eq_false hlo
                                      have b2 : decide (57 < (y[k].toNat : Int)) = true := decide_eq_true (by omega)
                                      clear hne hkn
                                      go_wp2
                                      go_meet
                                      case rel => exact ⟨rfl, rfl⟩
                                  · have hks2 : y.size ≤ k := by omega
                                    clear hkn hks
                                    go_wp2
                                    go_meet
                                    case rel => exact ⟨rfl, rfl⟩
                            case rest =>
                              obtain ⟨rfl, rfl⟩ := hcut
                              by_cases hm0 : m = 0
                              · have bm : (((m : Nat) : Int) == 0) = true := n0_eq hm0
                                have e4 : o = none := by rw [E2.out, if_pos (by rw [← HM.out]; exact hm0)]
                                subst e4
                                clear hm0
                                go_wp2
                                go_ret2
                                exact VPost.no ⟨_, _, _, rfl⟩ ((Below.refl _ _).alloc (Nat.le_refl _) _)
                              · have bm : (((m : Nat) : Int) == 0) = false := n0_ne hm0
                                have e4 : o = if y.size ≤ m then some ⟨#[]⟩ else some (y.extract m y.size) := by rw [E2.out, if_neg (by rw [← HM.out]; exact hm0), ← HM.out]
                                clear hm0 E2
                                by_cases hmy : m < y.size
                                · rw [if_neg (by omega)] at e4
                                  subst e4
                                  go_wp2
                                  go_ret2
                                  exact VPost.yes rfl (Below.refl _ _)
                                · have hmy2 : y.size ≤ m := by omega
                                  rw [if_pos hmy2] at e4
                                  subst e4
                                  clear hmy
                                  go_wp2
                                  go_ret2
                                  exact VPost.yes rfl (Below.refl _ _)
              · have hns2 : t.size ≤ n := by omega
                have e5 : o = some ⟨#[]⟩ := by rw [HO2.out]; unfold numFrac; rw [dif_neg hns]
                subst e5
                clear hns HO2
                go_wp2
                go_ret2
                exact VPost.yes rfl (Below.refl _ _)
  · have e0 : numF s = none := by unfold numF; rw [dif_neg h0]
    have b0 : (((s.size : Nat) : Int) == 0) = true := n0_eq (by omega)
    rw [e0]
    clear h0 e0
    go_enter Tryd.func91, Tryd.ntmps91
    go_wp2
    go_ret2
    exact VPost.no ⟨_, _, _, rfl⟩ ((Below.refl _ _).alloc (Nat.le_refl _) _)

end Go.Proofs.YtnidncohhinjbaaDoor
