/- The walks of fastjson's validateString and validateKey: what is left of the string behind its escapes, and the rest of the text; or that no string stands there. Conditions: the text takes at most 2^47 - 4096 bytes; the variable ErrSyntax holds an error. -/
import Derived.Test.YtnidncohhinjbaaDoorProg
import Derived.Test.YtnidncohhinjbaaDoorRk
import Derived.Test.YtnidncohhinjbaaDoorFjHex
namespace Go.Proofs.YtnidncohhinjbaaDoor
open Go.RowKit

/-- How a check of a string ends: what is left of it and the rest of the text, or an error. -/
def SPost (o : Option (ByteArray × ByteArray)) (w : World) (e : Ending) (w' : World) : Prop :=
  Below w.heap.size w w' ∧ match o with | some (a, t) => e = .returned (.tuple #[.string a, .string t, .nilIface]) | none => ∃ a t ty p, e = .returned (.tuple #[.string a, .string t, .iface ty p])
theorem SPost.yes {a t : ByteArray} {w w' : World} {e : Ending} (h : e = .returned (.tuple #[.string a, .string t, .nilIface])) (hb : Below w.heap.size w w') : SPost (some (a, t)) w e w' := ⟨hb, h⟩
theorem SPost.no {w w' : World} {e : Ending} (h : ∃ a t ty p, e = .returned (.tuple #[.string a, .string t, .iface ty p])) (hb : Below w.heap.size w w') : SPost none w e w' := ⟨hb, h⟩

/-- The letters that may stand behind a backslash by themselves. -/
def escL (c : UInt8) : Prop := c = 34 ∨ c = 92 ∨ c = 47 ∨ c = 98 ∨ c = 102 ∨ c = 110 ∨ c = 114 ∨ c = 116
instance : DecidablePred escL := fun c => by unfold escL; infer_instance
/-- The escapes of r, one after the other (at most k of them): what is left behind the last. -/
def escF : Nat → ByteArray → Option ByteArray
  | 0, _ => none
  | k + 1, r =>
    if h : 0 ≤ Lib.indexByte r.data.toList 92 then
      (let n := (Lib.indexByte r.data.toList 92).toNat + 1
       if h2 : n < r.size then
        (if escL r[n] then escF k (r.extract (n + 1) r.size)
         else if r[n] = 117 then
          (let x := r.extract (n + 1) r.size
           if x.size < 4 then none else if hexAll (x.extract 0 4) = false then none else escF k (x.extract 4 x.size))
         else none)
       else none)
    else some r
def strF (s : ByteArray) : Option (ByteArray × ByteArray) :=
  match closeL s.data.toList with
  | none => none
  | some m => (escF (s.size + 1) (s.extract 0 m)).map fun a => (a, s.extract (m + 1) s.size)

set_option maxHeartbeats 40000000 in
set_option maxRecDepth 100000 in
theorem validateString_any (s : ByteArray) (w : World) (hs : s.size ≤ 140737488351232) (hG : GLErr w) :
    Calls Tryd.prog 90 #[.string s] w (SPost (strF s) w) := by
  have HIX : Hid (∀ (t : ByteArray) (c : Int) (w : World), Calls Tryd.prog 62 #[.string t, .int .u8 c] w fun e w' => e = .returned (.int .i64 (Lib.indexByte t.data.toList c.toNat.toUInt8)) ∧ w = w') := Lib.hid fun t c w => (Tryd.strings_IndexByte t c w).mono fun e w' h => ⟨h.1, h.2.symm⟩
  have HRAW := Lib.hid (rawString_any s w hs)
  have HG := Lib.hid hG
  clear hG
  obtain ⟨o, ho⟩ : ∃ o, o = strF s := ⟨_, rfl⟩
  rw [← ho]
  have HO := Lib.hid ho
  clear ho
  obtain ⟨m0, hm0⟩ : ∃ m, m = Lib.indexByte s.data.toList 34 := ⟨_, rfl⟩
  have h34 : (34 : Int).toNat.toUInt8 = 34 := rfl
  have h92 : (92 : Int).toNat.toUInt8 = 92 := rfl
  have HC : Hid (∀ w, Calls Tryd.prog 62 #[.string s, .int .u8 34] w fun e w' => e = .returned (.int .i64 m0) ∧ w = w') := Lib.hid fun w => by rw [hm0]; exact HIX.out s 34 w
  by_cases hneg : m0 = -1
  · have hcl : closeL s.data.toList = none := closeL_none fun j _ => closes_not (index_none (hm0.symm.trans hneg) j)
    have e : o = none := by rw [HO.out]; unfold strF; rw [hcl]
    have HR := Lib.hid (HRAW.out.mono fun e w' h => raw_no h hcl)
    subst hneg
    subst e
    clear hm0 hcl HRAW
    go_enter Tryd.func90, Tryd.ntmps90
    go_wp2_with (first | (go_at_call 62; refine (HC.out _).mono ?_; rintro e w' ⟨rfl, rfl⟩) | (go_at_call 103; refine HR.out.mono ?_; rintro e w' ⟨a, b, ty, p, rfl, hb⟩) | go_in)
    go_ret3
    exact SPost.no ⟨_, _, _, _, rfl⟩ hb
  · have hge := Lib.indexByte_ge s.data.toList 34
    obtain ⟨n, hn⟩ : ∃ n : Nat, m0 = n := ⟨m0.toNat, by omega⟩
    subst hn
    obtain ⟨n1, n2, n3⟩ := index_some (n := n) hm0.symm
    have N1 : n < s.size := by rw [rk_len] at n1; exact n1
    obtain ⟨q, hq⟩ : ∃ q, q = Lib.indexByte (s.extract 0 n).data.toList 92 := ⟨_, rfl⟩
    have HQ : Hid (∀ w, Calls Tryd.prog 62 #[.string (s.extract 0 n), .int .u8 92] w fun e w' => e = .returned (.int .i64 q) ∧ w = w') := Lib.hid fun w => by rw [hq]; exact HIX.out (s.extract 0 n) 92 w
    by_cases hq0 : q < 0
    · have hcl : closeL s.data.toList = some n := by
        refine closeL_some (by rw [rk_len]; exact N1) (closes_yes n2 ?_) fun j hj => closes_not (n3 j hj)
        rw [runB_zero fun j hj => ?_]
        have hqm : q = -1 := by have := Lib.indexByte_ge (s.extract 0 n).data.toList 92; omega
        have h := index_none (hq.symm.trans hqm) j
        rw [Lib.extract_from_zero, List.getElem?_take_of_lt (by omega)] at h
        exact h
      have e : o = some (s.extract 0 n, s.extract (n + 1) s.size) := by
        rw [HO.out]
        unfold strF
        rw [hcl]
        simp only [escF]
        rw [dif_neg (by rw [← hq]; omega)]
        rfl
      have b1 : decide (q < 0) = true := decide_eq_true hq0
      subst e
      clear hneg hge hm0 n1 n2 n3 hq hcl
      go_enter Tryd.func90, Tryd.ntmps90
      go_wp2_with (first | (go_at_call 62; refine (HC.out _).mono ?_; rintro e w' ⟨rfl, rfl⟩) | (go_at_call 62; refine (HQ.out _).mono ?_; rintro e w' ⟨rfl, rfl⟩) | go_in)
      go_quiet (fail)
      go_wp2
      go_ret3
      exact SPost.yes rfl (below_drewN (Below.refl _ _) _)
    · have b1 : decide (q < 0) = false := decide_eq_false hq0
      clear hneg hge hm0 n1 n2 n3 hq
      rcases hcl : closeL s.data.toList with _ | m
      · have e : o = none := by rw [HO.out]; unfold strF; rw [hcl]
        have HR := Lib.hid (HRAW.out.mono fun e w' h => raw_no h hcl)
        subst e
        clear hcl HRAW
        go_enter Tryd.func90, Tryd.ntmps90
        go_wp2_with (first | (go_at_call 62; refine (HC.out _).mono ?_; rintro e w' ⟨rfl, rfl⟩) | (go_at_call 62; refine (HQ.out _).mono ?_; rintro e w' ⟨rfl, rfl⟩) | (go_at_call 103; refine HR.out.mono ?_; rintro e w' ⟨a, b, ty, p, rfl, hb⟩) | go_in)
        go_ret3
        exact SPost.no ⟨_, _, _, _, rfl⟩ hb
      · obtain ⟨x, hx⟩ : ∃ x, x = escF (s.size + 1) (s.extract 0 m) := ⟨_, rfl⟩
        obtain ⟨tl, htl⟩ : ∃ tl, tl = s.extract (m + 1) s.size := ⟨_, rfl⟩
        obtain ⟨r0, hr0⟩ : ∃ r0, r0 = s.extract 0 m := ⟨_, rfl⟩
        have e : o = x.map fun a => (a, tl) := by rw [HO.out, hx, htl]; unfold strF; rw [hcl]
        have HR := Lib.hid (HRAW.out.mono fun e w' h => raw_yes h hcl)
        have hr0s : r0.size ≤ s.size := by rw [hr0, ByteArray.size_extract]; omega
        have hx2 : escF (s.size + 1) r0 = x := by rw [hx, hr0]
        unfold RawYes at HR
        rw [← htl, ← hr0] at HR
        have HX := Lib.hid hx2
        have HE := Lib.hid e
        clear hcl HRAW hx hx2 e htl hr0 HO
        go_enter Tryd.func90, Tryd.ntmps90
        go_wp2_with (first | (go_at_call 62; refine (HC.out _).mono ?_; rintro e w' ⟨rfl, rfl⟩) | (go_at_call 62; refine (HQ.out _).mono ?_; rintro e w' ⟨rfl, rfl⟩) | (go_at_call 103; refine HR.out.mono ?_; rintro e w1 ⟨rfl, hb⟩) | go_in)
        have HB := Lib.hid hb
        clear hb HR HC HQ b1
        go_loopg [6] (s.size + 1) (fun g v5 wc => ∃ r : ByteArray, v5 = .string r ∧ r.size ≤ s.size ∧ r.size < g ∧ Hid (escF g r = x) ∧ Hid (Below w.heap.size w wc))
        case atStart => exact ⟨r0, rfl, hr0s, by omega, HX, HB⟩
        case round =>
          clear HX HB
          obtain ⟨r, rfl, hrs, hrg, HX, HB⟩ := hrel
          have hf := HX.out
          clear HX
          cases gk with
          | zero => omega
          | succ k =>
          simp only [escF] at hf
          obtain ⟨m0, hm0⟩ : ∃ m, m = Lib.indexByte r.data.toList 92 := ⟨_, rfl⟩
          have HC : Hid (∀ w, Calls Tryd.prog 62 #[.string r, .int .u8 92] w fun e w' => e = .returned (.int .i64 m0) ∧ w = w') := Lib.hid fun w => by rw [hm0]; exact HIX.out r 92 w
          rw [← hm0] at hf
          by_cases hneg : m0 < 0
          · rw [dif_neg (by omega)] at hf
            have e : o = some (r, tl) := by rw [HE.out, ← hf]; rfl
            have b1 : decide (m0 < 0) = true := decide_eq_true hneg
            subst e
            clear hf hm0
            go_wp2_with (first | (go_at_call 62; refine (HC.out _).mono ?_; rintro e w' ⟨rfl, rfl⟩) | go_in)
            go_ret3
            exact SPost.yes rfl HB.out
          · obtain ⟨n, hn⟩ : ∃ n : Nat, m0 = n := ⟨m0.toNat, by omega⟩
            subst hn
            rw [dif_pos (by omega)] at hf
            simp only [Int.toNat_natCast] at hf
            have n1 := (index_some (n := n) hm0.symm).1
            rw [rk_len] at n1
            clear hm0 hneg
            by_cases hlt : n + 1 < r.size
            · rw [dif_pos hlt] at hf
              by_cases hl : escL r[n + 1]
              · rw [if_pos hl] at hf
                have hrl : (r.extract (n + 1 + 1) r.size).size ≤ s.size := by rw [ByteArray.size_extract]; omega
                have hrk : (r.extract (n + 1 + 1) r.size).size < k := by rw [ByteArray.size_extract]; omega
                have HF := Lib.hid hf
                have HRL := Lib.hid hrl
                have HRK := Lib.hid hrk
                clear hf hrl hrk
                rcases hl with h | h | h | h | h | h | h | h
                · have f34 : ((r[n + 1].toNat : Int) == 34) = true := by rw [h]; rfl
                  clear h
                  go_wp2_with (first | (go_at_call 62; refine (HC.out _).mono ?_; rintro e w' ⟨rfl, rfl⟩) | go_in)
                  go_roundg k
                  case rel => exact ⟨_, rfl, HRL.out, HRK.out, HF, HB⟩
                  case measure => omega
                · have f34 : ((r[n + 1].toNat : Int) == 34) = false := by rw [h]; rfl
                  have f92 : ((r[n + 1].toNat : Int) == 92) = true := by rw [h]; rfl
                  clear h
                  go_wp2_with (first | (go_at_call 62; refine (HC.out _).mono ?_; rintro e w' ⟨rfl, rfl⟩) | go_in)
                  go_roundg k
                  case rel => exact ⟨_, rfl, HRL.out, HRK.out, HF, HB⟩
                  case measure => omega
                · have f34 : ((r[n + 1].toNat : Int) == 34) = false := by rw [h]; rfl
                  have f92 : ((r[n + 1].toNat : Int) == 92) = false := by rw [h]; rfl
                  have f47 : ((r[n + 1].toNat : Int) == 47) = true := by rw [h]; rfl
                  clear h
                  go_wp2_with (first | (go_at_call 62; refine (HC.out _).mono ?_; rintro e w' ⟨rfl, rfl⟩) | go_in)
                  go_roundg k
                  case rel => exact ⟨_, rfl, HRL.out, HRK.out, HF, HB⟩
                  case measure => omega
                · have f34 : ((r[n + 1].toNat : Int) == 34) = false := by rw [h]; rfl
                  have f92 : ((r[n + 1].toNat : Int) == 92) = false := by rw [h]; rfl
                  have f47 : ((r[n + 1].toNat : Int) == 47) = false := by rw [h]; rfl
                  have f98 : ((r[n + 1].toNat : Int) == 98) = true := by rw [h]; rfl
                  clear h
                  go_wp2_with (first | (go_at_call 62; refine (HC.out _).mono ?_; rintro e w' ⟨rfl, rfl⟩) | go_in)
                  go_roundg k
                  case rel => exact ⟨_, rfl, HRL.out, HRK.out, HF, HB⟩
                  case measure => omega
                · have f34 : ((r[n + 1].toNat : Int) == 34) = false := by rw [h]; rfl
                  have f92 : ((r[n + 1].toNat : Int) == 92) = false := by rw [h]; rfl
                  have f47 : ((r[n + 1].toNat : Int) == 47) = false := by rw [h]; rfl
                  have f98 : ((r[n + 1].toNat : Int) == 98) = false := by rw [h]; rfl
                  have f102 : ((r[n + 1].toNat : Int) == 102) = true := by rw [h]; rfl
                  clear h
                  go_wp2_with (first | (go_at_call 62; refine (HC.out _).mono ?_; rintro e w' ⟨rfl, rfl⟩) | go_in)
                  go_roundg k
                  case rel => exact ⟨_, rfl, HRL.out, HRK.out, HF, HB⟩
                  case measure => omega
                · have f34 : ((r[n + 1].toNat : Int) == 34) = false := by rw [h]; rfl
                  have f92 : ((r[n + 1].toNat : Int) == 92) = false := by rw [h]; rfl
                  have f47 : ((r[n + 1].toNat : Int) == 47) = false := by rw [h]; rfl
                  have f98 : ((r[n + 1].toNat : Int) == 98) = false := by rw [h]; rfl
                  have f102 : ((r[n + 1].toNat : Int) == 102) = false := by rw [h]; rfl
                  have f110 : ((r[n + 1].toNat : Int) == 110) = true := by rw [h]; rfl
                  clear h
                  go_wp2_with (first | (go_at_call 62; refine (HC.out _).mono ?_; rintro e w' ⟨rfl, rfl⟩) | go_in)
                  go_roundg k
                  case rel => exact ⟨_, rfl, HRL.out, HRK.out, HF, HB⟩
                  case measure => omega
                · have f34 : ((r[n + 1].toNat : Int) == 34) = false := by rw [h]; rfl
                  have f92 : ((r[n + 1].toNat : Int) == 92) = false := by rw [h]; rfl
                  have f47 : ((r[n + 1].toNat : Int) == 47) = false := by rw [h]; rfl
                  have f98 : ((r[n + 1].toNat : Int) == 98) = false := by rw [h]; rfl
                  have f102 : ((r[n + 1].toNat : Int) == 102) = false := by rw [h]; rfl
                  have f110 : ((r[n + 1].toNat : Int) == 110) = false := by rw [h]; rfl
                  have f114 : ((r[n + 1].toNat : Int) == 114) = true := by rw [h]; rfl
                  clear h
                  go_wp2_with (first | (go_at_call 62; refine (HC.out _).mono ?_; rintro e w' ⟨rfl, rfl⟩) | go_in)
                  go_roundg k
                  case rel => exact ⟨_, rfl, HRL.out, HRK.out, HF, HB⟩
                  case measure => omega
                · have f34 : ((r[n + 1].toNat : Int) == 34) = false := by rw [h]; rfl
                  have f92 : ((r[n + 1].toNat : Int) == 92) = false := by rw [h]; rfl
                  have f47 : ((r[n + 1].toNat : Int) == 47) = false := by rw [h]; rfl
                  have f98 : ((r[n + 1].toNat : Int) == 98) = false := by rw [h]; rfl
                  have f102 : ((r[n + 1].toNat : Int) == 102) = false := by rw [h]; rfl
                  have f110 : ((r[n + 1].toNat : Int) == 110) = false := by rw [h]; rfl
                  have f114 : ((r[n + 1].toNat : Int) == 114) = false := by rw [h]; rfl
                  have f116 : ((r[n + 1].toNat : Int) == 116) = true := by rw [h]; rfl
                  clear h
                  go_wp2_with (first | (go_at_call 62; refine (HC.out _).mono ?_; rintro e w' ⟨rfl, rfl⟩) | go_in)
                  go_roundg k
                  case rel => exact ⟨_, rfl, HRL.out, HRK.out, HF, HB⟩
                  case measure => omega
              · rw [if_neg hl] at hf
                have f34 : ((r[n + 1].toNat : Int) == 34) = false := u8_not (n := 34) (by decide) fun e => hl (by unfold escL; simp [e])
                have f92 : ((r[n + 1].toNat : Int) == 92) = false := u8_not (n := 92) (by decide) fun e => hl (by unfold escL; simp [e])
                have f47 : ((r[n + 1].toNat : Int) == 47) = false := u8_not (n := 47) (by decide) fun e => hl (by unfold escL; simp [e])
                have f98 : ((r[n + 1].toNat : Int) == 98) = false := u8_not (n := 98) (by decide) fun e => hl (by unfold escL; simp [e])
                have f102 : ((r[n + 1].toNat : Int) == 102) = false := u8_not (n := 102) (by decide) fun e => hl (by unfold escL; simp [e])
                have f110 : ((r[n + 1].toNat : Int) == 110) = false := u8_not (n := 110) (by decide) fun e => hl (by unfold escL; simp [e])
                have f114 : ((r[n + 1].toNat : Int) == 114) = false := u8_not (n := 114) (by decide) fun e => hl (by unfold escL; simp [e])
                have f116 : ((r[n + 1].toNat : Int) == 116) = false := u8_not (n := 116) (by decide) fun e => hl (by unfold escL; simp [e])
                clear hl
                by_cases hu : r[n + 1] = 117
                · rw [if_pos hu] at hf
                  have f117 : ((r[n + 1].toNat : Int) == 117) = true := by rw [hu]; rfl
                  have hxs : (r.extract (n + 1 + 1) r.size).size = r.size - (n + 1 + 1) := by rw [ByteArray.size_extract]; omega
                  clear hu
                  by_cases h4 : (r.extract (n + 1 + 1) r.size).size < 4
                  · rw [if_pos h4] at hf
                    have e : o = none := by rw [HE.out, ← hf]; rfl
                    have b4 : decide (((r.size - (n + 1 + 1) : Nat) : Int) < 4) = true := decide_eq_true (by omega)
                    subst e
                    clear hf h4 hxs
                    go_wp2_with (first | (go_at_call 62; refine (HC.out _).mono ?_; rintro e w' ⟨rfl, rfl⟩) | go_in)
                    go_ret3
                    exact SPost.no ⟨_, _, _, _, rfl⟩ (HB.out.alloc HB.out.size _)
                  · rw [if_neg h4] at hf
                    have b4 : decide (((r.size - (n + 1 + 1) : Nat) : Int) < 4) = false := decide_eq_false (by omega)
                    have h4s : ((r.extract (n + 1 + 1) r.size).extract 0 4).size = 4 := by rw [ByteArray.size_extract]; omega
                    have HP : Hid (∀ w2, Below w.heap.size w w2 → Calls Tryd.prog 47 #[.string ((r.extract (n + 1 + 1) r.size).extract 0 4), .int .i64 16, .int .i64 16] w2 (PuPost (hexAll ((r.extract (n + 1 + 1) r.size).extract 0 4)) w2)) := Lib.hid fun w2 h => pu16_any _ h4s w2 (HG.out.keep h)
                    have h5 : n + 1 + 1 + 4 ≤ r.size := by omega
                    cases hh : hexAll ((r.extract (n + 1 + 1) r.size).extract 0 4) with
                    | false =>
                      rw [hh] at hf HP
                      rw [if_pos rfl] at hf
                      have e : o = none := by rw [HE.out, ← hf]; rfl
                      subst e
                      clear hf h4 hxs hh h4s
                      go_wp2_with (first | (go_at_call 62; refine (HC.out _).mono ?_; rintro e w' ⟨rfl, rfl⟩) | (go_at_call 47; refine (HP.out _ HB.out).mono ?_; rintro e w2 ⟨hb2, v, ty, p, rfl⟩) | go_in)
                      have HB3 := HB.out.trans (hb2.mono HB.out.size)
                      go_ret3
                      exact SPost.no ⟨_, _, _, _, rfl⟩ (HB3.alloc HB3.size _)
                    | true =>
                      rw [hh] at hf HP
                      rw [if_neg (by decide)] at hf
                      have hrl : ((r.extract (n + 1 + 1) r.size).extract 4 (r.extract (n + 1 + 1) r.size).size).size ≤ s.size := by rw [ByteArray.size_extract]; omega
                      have hrk : ((r.extract (n + 1 + 1) r.size).extract 4 (r.extract (n + 1 + 1) r.size).size).size < k := by rw [ByteArray.size_extract]; omega
                      rw [hxs] at hf hrl hrk
                      have HF := Lib.hid hf
                      have HRL := Lib.hid hrl
                      have HRK := Lib.hid hrk
                      clear hf h4 hxs hh h4s hrl hrk
                      go_wp2_with (first | (go_at_call 62; refine (HC.out _).mono ?_; rintro e w' ⟨rfl, rfl⟩) | (go_at_call 47; refine (HP.out _ HB.out).mono ?_; rintro e w2 ⟨hb2, v, rfl⟩) | go_in)
                      have HB3 := Lib.hid (HB.out.trans (hb2.mono HB.out.size))
                      clear hb2
                      go_roundg k
                      case rel => exact ⟨_, rfl, HRL.out, HRK.out, HF, HB3⟩
                      case measure => omega
                · rw [if_neg hu] at hf
                  have f117 : ((r[n + 1].toNat : Int) == 117) = false := u8_not (n := 117) (by decide) hu
                  have e : o = none := by rw [HE.out, ← hf]; rfl
                  subst e
                  clear hf hu
                  go_wp2_with (first | (go_at_call 62; refine (HC.out _).mono ?_; rintro e w' ⟨rfl, rfl⟩) | go_in)
                  go_ret3
                  exact SPost.no ⟨_, _, _, _, rfl⟩ (HB.out.alloc HB.out.size _)
            · rw [dif_neg hlt] at hf
              have e : o = none := by rw [HE.out, ← hf]; rfl
              have hlt2 : r.size ≤ n + 1 := by omega
              subst e
              clear hf hlt
              go_wp2_with (first | (go_at_call 62; refine (HC.out _).mono ?_; rintro e w' ⟨rfl, rfl⟩) | go_in)
              go_ret3
              exact SPost.no ⟨_, _, _, _, rfl⟩ (HB.out.alloc HB.out.size _)
end Go.Proofs.YtnidncohhinjbaaDoor
