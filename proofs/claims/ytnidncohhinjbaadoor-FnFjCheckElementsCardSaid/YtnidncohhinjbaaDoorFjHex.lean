/- The walk of strconv.ParseUint(s, 16, 16) at four bytes: whether each of them is a hexadecimal digit. Condition: the variable ErrSyntax holds an error. -/
import Derived.Test.YtnidncohhinjbaaDoorProg
import Derived.Test.YtnidncohhinjbaaDoorShelf
import Derived.Test.YtnidncohhinjbaaDoorFfU
import Derived.Test.YtnidncohhinjbaaDoorFjNum
namespace Go.Proofs.YtnidncohhinjbaaDoor
open Go.RowKit

def lowU (c : UInt8) : Int := bits .or .u8 (c.toNat : Int) 32
def hexB (c : UInt8) : Bool := (decide (48 ≤ (c.toNat : Int)) && decide ((c.toNat : Int) ≤ 57)) || (decide (97 ≤ lowU c) && decide (lowU c ≤ 102))
def hexAll (s : ByteArray) : Bool := s.data.toList.all hexB
theorem hex_no {s : ByteArray} {k : Nat} (h : k < s.size) (hc : hexB s[k] = false) : hexAll s = false := by
  unfold hexAll
  rw [List.all_eq_false]
  refine ⟨s[k], ?_, by simp [hc]⟩
  exact List.getElem_mem (by simpa using h)
theorem hex_yes {s : ByteArray} (h : ∀ k (hk : k < s.size), hexB s[k] = true) : hexAll s = true := by
  unfold hexAll
  rw [List.all_eq_true]
  intro c hc
  obtain ⟨k, hk, rfl⟩ := List.getElem_of_mem hc
  exact h k (by simpa using hk)
theorem hex_up {k : Nat} {a d : Int} (ha : a < 16 ^ k) (hd : d ≤ 15) : a * 16 + d < 16 ^ (k + 1) := by
  rw [Int.pow_succ]
  omega
theorem hex_lt {k : Nat} (h : k ≤ 3) {a : Int} (ha : a < 16 ^ k) : a ≤ 4095 := by
  have : (16 : Int) ^ k ≤ 16 ^ 3 := by exact_mod_cast Nat.pow_le_pow_right (by decide) h
  have e : (16 : Int) ^ 3 = 4096 := by decide
  omega

def HexPost (o : Bool) (w : World) (e : Ending) (w' : World) : Prop :=
  Below w.heap.size w w' ∧ match o with | true => ∃ v, e = .returned (.tuple #[.int .u64 v, .nilIface]) | false => e = .returned (.tuple #[.int .u64 0, .iface 121 (.int .i64 2)])

set_option maxHeartbeats 4000000 in
set_option maxRecDepth 100000 in
theorem hexIn_any (t : ByteArray) (hmax : t.size = 4) (w : World) :
    Calls Tryd.prog 64 #[.string t, .int .i64 16, .int .i64 16] w (HexPost (hexAll t) w) := by
  have hemp : t.toList.isEmpty = false := by
    rw [← decide_eq_emptyBytes]
    exact decide_eq_false (fun h => by rw [h] at hmax; exact absurd hmax (by decide))
  have hcv := Lib.run_convert_string_bytes (P := Tryd.prog) w 9 83 5 t (u := .string) Tryd.laysPu14.t9 Tryd.laysPu14.t37 Tryd.laysPu14.t5
  have hB : ∀ j, j < t.size → (Lib.bytesWorld w 5 t).cell? ⟨w.heap.size, j, none⟩ = some (.int .u8 (t.data.toList.getD j 0).toNat) := fun j hj => Lib.bytesWorld_cell w 5 t j hj
  have hbl : Below w.heap.size w (Lib.bytesWorld w 5 t) := Lib.bytesWorld_below _ _ _
  obtain ⟨W1, hW1⟩ : ∃ W1, W1 = Lib.bytesWorld w 5 t := ⟨_, rfl⟩
  rw [← hW1] at hcv hB hbl
  have HBL := Lib.hid hbl
  clear hW1 hbl
  obtain ⟨o, ho⟩ : ∃ o, o = hexAll t := ⟨_, rfl⟩
  rw [← ho]
  have HO := Lib.hid ho
  have HM := Lib.hid hmax
  have hml : t.size ≤ 140737488351232 := by omega
  have hm1 : 0 < t.size := by omega
  clear ho hmax
  have hmv : IntKind.u64.wrap (IntKind.u64.wrap 65536 - 1) = 65535 := by
    rw [IntKind.wrap_u64, IntKind.wrap_u64]
    decide
  go_enter Tryd.func64, Tryd.ntmps64
  go_wp2
  go_loop [12, 13, 101] (fun vu vn vi => ∃ (k : Nat) (a : Int), vu = .bool false ∧ vn = .int .u64 a ∧ vi = .int .i64 k ∧ k ≤ t.size ∧ 0 ≤ a ∧ Hid (a < 16 ^ k ∧ ∀ j (hj : j < t.size), j < k → hexB t[j] = true))
    (fun _ _ vi => t.size - (intOf vi).toNat)
  case atStart => exact ⟨0, 0, rfl, rfl, rfl, by omega, Int.le_refl _, Lib.hid ⟨by decide, fun j _ h => absurd h (by omega)⟩⟩
  case round =>
    obtain ⟨k, a, rfl, rfl, rfl, hk, ha0, hh⟩ := hrel
    by_cases hkn : k < t.size
    · have hc := hB k hkn
      have hget : t.data.toList.getD k 0 = t[k] := by
        rw [List.getD, List.getElem?_eq_getElem (by simpa using hkn)]; rfl
      rw [hget] at hc
      have HN := Lib.hid (fun (h : hexB t[k] = false) => HO.out.trans (hex_no hkn h))
      have HY := Lib.hid (fun (h : hexB t[k] = true) j (hj : j < t.size) (hjk : j < k + 1) => (if e : j = k then by subst e; exact h else hh.out.2 j hj (by omega) : hexB t[j] = true))
      have ha1 : a ≤ 4095 := hex_lt (by have := HM.out; omega) hh.out.1
      have HUP := Lib.hid (fun (d : Int) (h : d ≤ 15) => hex_up hh.out.1 h)
      generalize t[k] = c at hc HN HY
      obtain ⟨l, hl⟩ : ∃ l, l = lowU c := ⟨_, rfl⟩
      obtain ⟨hu1, hu2⟩ := u8_hi c
      have hl0 : 0 ≤ l := by rw [hl]; exact bits_lo_u8 .or (c.toNat : Int) 32
      have hl1 : l ≤ 255 := by rw [hl]; exact bits_hi_u8 .or (c.toNat : Int) 32
      have HL := Lib.hid (show bits .or .u8 (c.toNat : Int) 32 = l from hl.symm)
      clear hB hget
      by_cases hdig : 48 ≤ (c.toNat : Int) ∧ (c.toNat : Int) ≤ 57
      · obtain ⟨hd0, hd1⟩ := hdig
        have b0 : ((c.toNat : Int) == 95) = false := by simp only [beq_eq_false_iff_ne]; omega
        have b1 : decide (48 ≤ (c.toNat : Int)) = true := decide_eq_true hd0
        have b2 : decide ((c.toNat : Int) ≤ 57) = true := decide_eq_true hd1
        have hx : hexB c = true := by unfold hexB; rw [b1, b2]; rfl
        have HX := Lib.hid (HY.out hx)
        have HU := Lib.hid (HUP.out ((c.toNat : Int) - 48) (by omega))
        clear HY HN hl hx HUP
        go_wp2
        go_round
        case rel => exact ⟨k + 1, _, rfl, rfl, by go_num, by omega, by omega, Lib.hid ⟨HU.out, HX.out⟩⟩
        case measure => simp [intOf]; omega
      · have HLOW : Hid (∀ w, Calls Tryd.prog 82 #[.int .u8 (c.toNat : Int)] w fun e w' => e = .returned (.int .u8 l) ∧ w' = w) := Lib.hid fun w => by
          rw [hl]
          go_enter Tryd.func82, Tryd.ntmps82
          go_wp2
          go_ret
          exact ⟨rfl, rfl⟩
        have HD : Hid ((decide (48 ≤ (c.toNat : Int)) && decide ((c.toNat : Int) ≤ 57)) = false) := Lib.hid (by
          rw [Bool.and_eq_false_iff, decide_eq_false_iff_not, decide_eq_false_iff_not]
          omega)
        have HCC : Hid (decide (48 ≤ (c.toNat : Int)) = false ∨ (decide (48 ≤ (c.toNat : Int)) = true ∧ decide ((c.toNat : Int) ≤ 57) = false)) := Lib.hid (by
          rw [decide_eq_false_iff_not, decide_eq_false_iff_not, decide_eq_true_eq]
          omega)
        by_cases h95 : (c.toNat : Int) = 95
        · have e127 : l = 127 := by rw [hl]; unfold lowU; rw [h95]; decide
          have b0 : ((c.toNat : Int) == 95) = true := by rw [h95]; rfl
          subst e127
          clear h95 hdig
          have hx : hexB c = false := by unfold hexB; rw [HD.out, ← hl]; rfl
          have e : o = false := HN.out hx
          subst e
          clear HY HN hl hx HUP
          rcases HCC.out with b1 | ⟨b1, b2⟩
          · go_wp2_with (go_at_call 82; refine (HLOW.out _).mono ?_; rintro e w' ⟨rfl, rfl⟩)
            go_ret2
            exact ⟨HBL.out, rfl⟩
          · go_wp2_with (go_at_call 82; refine (HLOW.out _).mono ?_; rintro e w' ⟨rfl, rfl⟩)
            go_ret2
            exact ⟨HBL.out, rfl⟩
        · have b0 : ((c.toNat : Int) == 95) = false := by simp only [beq_eq_false_iff_ne]; omega
          clear h95 hdig
          by_cases h97 : 97 ≤ l
          · have b3 : decide (97 ≤ l) = true := decide_eq_true h97
            by_cases h122 : l ≤ 122
            · have b4 : decide (l ≤ 122) = true := decide_eq_true h122
              by_cases h102 : l ≤ 102
              · have hx : hexB c = true := by unfold hexB; rw [HD.out, ← hl, b3, decide_eq_true h102]; rfl
                have HX := Lib.hid (HY.out hx)
                have HU := Lib.hid (HUP.out (l - 97 + 10) (by omega))
                clear HY HN hl hx HUP
                rcases HCC.out with b1 | ⟨b1, b2⟩
                · go_wp2_with (go_at_call 82; refine (HLOW.out _).mono ?_; rintro e w' ⟨rfl, rfl⟩)
                  go_round
                  case rel => exact ⟨k + 1, _, rfl, rfl, by go_num, by omega, by omega, Lib.hid ⟨HU.out, HX.out⟩⟩
                  case measure => simp [intOf]; omega
                · go_wp2_with (go_at_call 82; refine (HLOW.out _).mono ?_; rintro e w' ⟨rfl, rfl⟩)
                  go_round
                  case rel => exact ⟨k + 1, _, rfl, rfl, by go_num, by omega, by omega, Lib.hid ⟨HU.out, HX.out⟩⟩
                  case measure => simp [intOf]; omega
              · have b5 : decide (l - 97 + 10 < 16) = false := decide_eq_false (by omega)
                have b6 : decide (16 ≤ l - 97 + 10) = true := decide_eq_true (by omega)
                have hx : hexB c = false := by unfold hexB; rw [HD.out, ← hl]; rw [b3, decide_eq_false h102]; rfl
                have e : o = false := HN.out hx
                subst e
                clear HY HN hl hx HUP
                rcases HCC.out with b1 | ⟨b1, b2⟩
                · go_wp2_with (go_at_call 82; refine (HLOW.out _).mono ?_; rintro e w' ⟨rfl, rfl⟩)
                  go_ret2
                  exact ⟨HBL.out, rfl⟩
                · go_wp2_with (go_at_call 82; refine (HLOW.out _).mono ?_; rintro e w' ⟨rfl, rfl⟩)
                  go_ret2
                  exact ⟨HBL.out, rfl⟩
            · have b4 : decide (l ≤ 122) = false := decide_eq_false h122
              have hx : hexB c = false := by unfold hexB; rw [HD.out, ← hl]; rw [b3, decide_eq_false (show ¬ l ≤ 102 by omega)]; rfl
              have e : o = false := HN.out hx
              subst e
              clear HY HN hl hx HUP
              rcases HCC.out with b1 | ⟨b1, b2⟩
              · go_wp2_with (go_at_call 82; refine (HLOW.out _).mono ?_; rintro e w' ⟨rfl, rfl⟩)
                go_ret2
                exact ⟨HBL.out, rfl⟩
              · go_wp2_with (go_at_call 82; refine (HLOW.out _).mono ?_; rintro e w' ⟨rfl, rfl⟩)
                go_ret2
                exact ⟨HBL.out, rfl⟩
          · have b3 : decide (97 ≤ l) = false := decide_eq_false h97
            have hx : hexB c = false := by unfold hexB; rw [HD.out, ← hl]; rw [b3]; rfl
            have e : o = false := HN.out hx
            subst e
            clear HY HN hl hx HUP
            rcases HCC.out with b1 | ⟨b1, b2⟩
            · go_wp2_with (go_at_call 82; refine (HLOW.out _).mono ?_; rintro e w' ⟨rfl, rfl⟩)
              go_ret2
              exact ⟨HBL.out, rfl⟩
            · go_wp2_with (go_at_call 82; refine (HLOW.out _).mono ?_; rintro e w' ⟨rfl, rfl⟩)
              go_ret2
              exact ⟨HBL.out, rfl⟩
    · obtain rfl : k = t.size := by omega
      have e : o = true := by rw [HO.out]; exact hex_yes fun j hj => hh.out.2 j hj hj
      subst e
      clear hkn
      go_wp2
      go_ret2
      exact ⟨HBL.out, _, rfl⟩

def PuPost (o : Bool) (w : World) (e : Ending) (w' : World) : Prop :=
  Below w.heap.size w w' ∧ match o with | true => ∃ v, e = .returned (.tuple #[.int .u64 v, .nilIface]) | false => ∃ v t p, e = .returned (.tuple #[.int .u64 v, .iface t p])

set_option maxHeartbeats 4000000 in
set_option maxRecDepth 100000 in
theorem pu16_any (t : ByteArray) (hmax : t.size = 4) (w : World) (hG : GLErr w) :
    Calls Tryd.prog 47 #[.string t, .int .i64 16, .int .i64 16] w (PuPost (hexAll t) w) := by
  have HI := Lib.hid (hexIn_any t hmax w)
  obtain ⟨o, ho⟩ : ∃ o, o = hexAll t := ⟨_, rfl⟩
  rw [← ho] at HI ⊢
  have HM := Lib.hid hmax
  clear ho hmax
  have HG := Lib.hid hG
  clear hG
  cases o with
  | true =>
    go_enter Tryd.func47, Tryd.ntmps47
    go_wp2_with (go_at_call 64; refine HI.out.mono ?_; rintro e w' ⟨hb, v, rfl⟩)
    go_ret2
    exact ⟨hb, _, rfl⟩
  | false =>
    go_enter Tryd.func47, Tryd.ntmps47
    go_wp2_with (go_at_call 64; refine HI.out.mono ?_)
    rintro e w1 ⟨hb, rfl⟩
    have HB := Lib.hid hb
    obtain ⟨⟨t0, p0, h0⟩, -⟩ := HG.out.keep hb
    have H0 := Lib.hid h0
    clear hb h0
    go_wp2_with (go_at_call 65; refine (AnyPu.strconv_toError_syntax (ρ := Tryd.laysPu14_ren) { Tryd.laysPu14 with } _ t 16 16 _ w1 (by have := HM.out; omega) H0.out (.inr ⟨_, _, rfl⟩)).mono ?_)
    rintro e w2 ⟨N, rfl, h1, h2, h3⟩
    go_wp2
    go_ret2
    exact ⟨HB.out.trans (h3.mono HB.out.size), _, _, _, rfl⟩
end Go.Proofs.YtnidncohhinjbaaDoor
