/- The walk of fastjson's validateArray, for any function V that says where a value ends. Conditions: the text takes at most 2^47 - 4096 bytes; the variable ErrSyntax holds an error; validateValue answers as V says. -/
import Derived.Test.YtnidncohhinjbaaDoorFjSkip
import Derived.Test.YtnidncohhinjbaaDoorFjHex
namespace Go.Proofs.YtnidncohhinjbaaDoor
open Go.RowKit

def arrL (V : ByteArray → Option ByteArray) : Nat → ByteArray → Option ByteArray
  | 0, _ => none
  | j + 1, s =>
    match V (skipF s) with
    | none => none
    | some t =>
      if h : 0 < (skipF t).size then
        (if (skipF t)[0] = 44 then arrL V j ((skipF t).extract 1 (skipF t).size)
         else if (skipF t)[0] = 93 then some ((skipF t).extract 1 (skipF t).size) else none)
      else none
def arrF (V : ByteArray → Option ByteArray) (s : ByteArray) : Option ByteArray :=
  if h : 0 < (skipF s).size then (if (skipF s)[0] = 93 then some ((skipF s).extract 1 (skipF s).size) else arrL V ((skipF s).size + 1) (skipF s)) else none

/-- What a caller of validateValue knows. -/
def VCalls (V : ByteArray → Option ByteArray) (B : Nat) : Prop := (∀ t w, t.size ≤ B → GLErr w → Calls Tryd.prog 67 #[.string t] w (VPost (V t) w)) ∧ ∀ t r, t.size ≤ B → V t = some r → r.size ≤ t.size

set_option maxHeartbeats 40000000 in
set_option maxRecDepth 100000 in
theorem array_any (V : ByteArray → Option ByteArray) (B : Nat) (hB : B ≤ 140737488351232) (hV : VCalls V B) (s : ByteArray) (w : World) (hs : s.size ≤ B) (hG : GLErr w) :
    Calls Tryd.prog 50 #[.string s] w (VPost (arrF V s) w) := by
  have HG := Lib.hid hG
  clear hG
  have HV := Lib.hid hV
  clear hV
  obtain ⟨o, ho⟩ : ∃ o, o = arrF V s := ⟨_, rfl⟩
  rw [← ho]
  unfold arrF at ho
  have H1 : Hid (∀ w, Calls Tryd.prog 66 #[.string s] w fun e w' => e = .returned (.string (skipF s)) ∧ Below w.heap.size w w') := Lib.hid fun w => skip_any s w (by omega)
  have h1 := skipF_size s (by omega)
  generalize skipF s = s1 at ho H1 h1
  by_cases hz : 0 < s1.size
  · rw [dif_pos hz] at ho
    have bz : (((s1.size : Nat) : Int) == 0) = false := n0_ne (by omega)
    obtain ⟨hu1, hu2⟩ := u8_hi s1[0]
    by_cases hc : s1[0] = 93
    · rw [if_pos hc] at ho
      have bc : ((s1[0].toNat : Int) == 93) = true := by rw [hc]; rfl
      subst ho
      clear hc
      go_enter Tryd.func50, Tryd.ntmps50
      go_wp2_with (first | (go_at_call 66; with_reducible refine (H1.out _).mono ?_; rintro e w1 ⟨rfl, hb1⟩) | go_in)
      go_ret2
      exact VPost.yes rfl hb1
    · rw [if_neg hc] at ho
      have bc : ((s1[0].toNat : Int) == 93) = false := u8_not (n := 93) (by decide) hc
      have HO := Lib.hid ho.symm
      clear hc ho
      go_enter Tryd.func50, Tryd.ntmps50
      go_wp2_with (first | (go_at_call 66; with_reducible refine (H1.out _).mono ?_; rintro e w1 ⟨rfl, hb1⟩) | go_in)
      have HB := Lib.hid hb1
      clear hb1 bc bz H1 hu1 hu2
      go_loopg [0] (s1.size + 1) (fun g v0 wc => ∃ r : ByteArray, v0 = .string r ∧ r.size ≤ s1.size ∧ r.size < g ∧ Hid (arrL V g r = o) ∧ Hid (Below w.heap.size w wc))
      case atStart => exact ⟨s1, rfl, Nat.le_refl _, by omega, HO, HB⟩
      case round =>
        clear HO HB
        obtain ⟨r, rfl, hrs, hrg, HO, HB⟩ := hrel
        have hf := HO.out
        clear HO
        cases gk with
        | zero => omega
        | succ j =>
        unfold arrL at hf
        have H1 : Hid (∀ w, Calls Tryd.prog 66 #[.string r] w fun e w' => e = .returned (.string (skipF r)) ∧ Below w.heap.size w w') := Lib.hid fun w => skip_any r w (by omega)
        have h2 := skipF_size r (by omega)
        generalize skipF r = r1 at hf H1 h2
        have HVr : Hid (∀ w2, Below w.heap.size w w2 → Calls Tryd.prog 67 #[.string r1] w2 (VPost (V r1) w2)) := Lib.hid fun w2 h => HV.out.1 r1 w2 (by omega) (HG.out.keep h)
        have hVs := HV.out.2 r1
        generalize V r1 = v at hf HVr hVs
        cases v with
        | none =>
          have e : o = none := hf.symm
          subst e
          clear hf hVs
          go_wp2_with (first | (go_at_call 66; with_reducible refine (H1.out _).mono ?_; rintro e w1 ⟨rfl, hb1⟩) | (go_at_call 67; refine (HVr.out _ (HB.out.trans (hb1.mono HB.out.size))).mono ?_; rintro e w2 ⟨hb2, t, ty, p, rfl⟩) | go_in)
          go_ret2
          have hA := HB.out.trans (hb1.mono HB.out.size)
          have hC := hA.trans (hb2.mono hA.size)
          exact VPost.no ⟨_, _, _, rfl⟩ (hC.alloc hC.size _)
        | some t =>
          have h3 := hVs t (by omega) rfl
          simp only at hf
          have H2 : Hid (∀ w, Calls Tryd.prog 66 #[.string t] w fun e w' => e = .returned (.string (skipF t)) ∧ Below w.heap.size w w') := Lib.hid fun w => skip_any t w (by omega)
          have h4 := skipF_size t (by omega)
          generalize skipF t = t2 at hf H2 h4
          clear hVs
          by_cases hz : 0 < t2.size
          · rw [dif_pos hz] at hf
            have bz : (((t2.size : Nat) : Int) == 0) = false := n0_ne (by omega)
            obtain ⟨hu1, hu2⟩ := u8_hi t2[0]
            by_cases hc : t2[0] = 44
            · rw [if_pos hc] at hf
              have bc : ((t2[0].toNat : Int) == 44) = true := by rw [hc]; rfl
              have h5 : (t2.extract 1 t2.size).size ≤ s1.size := by rw [ByteArray.size_extract]; omega
              have h6 : (t2.extract 1 t2.size).size < j := by rw [ByteArray.size_extract]; omega
              have HO := Lib.hid hf
              have H5 := Lib.hid h5
              have H6 := Lib.hid h6
              clear hf hc h5 h6
              go_wp2_with (first | (go_at_call 66; with_reducible refine (H1.out _).mono ?_; rintro e w1 ⟨rfl, hb1⟩) | (go_at_call 67; refine (HVr.out _ (HB.out.trans (hb1.mono HB.out.size))).mono ?_; rintro e w2 ⟨hb2, rfl⟩) | (go_at_call 66; with_reducible refine (H2.out _).mono ?_; rintro e w3 ⟨rfl, hb3⟩) | go_in)
              have hA := HB.out.trans (hb1.mono HB.out.size)
              have hC := hA.trans (hb2.mono hA.size)
              have HB3 := Lib.hid (hC.trans (hb3.mono hC.size))
              go_roundg j
              case rel => exact ⟨_, rfl, H5.out, H6.out, HO, HB3⟩
              case measure => omega
            · rw [if_neg hc] at hf
              have bc : ((t2[0].toNat : Int) == 44) = false := u8_not (n := 44) (by decide) hc
              by_cases hd : t2[0] = 93
              · rw [if_pos hd] at hf
                have bd : ((t2[0].toNat : Int) == 93) = true := by rw [hd]; rfl
                subst hf
                clear hc hd
                go_wp2_with (first | (go_at_call 66; with_reducible refine (H1.out _).mono ?_; rintro e w1 ⟨rfl, hb1⟩) | (go_at_call 67; refine (HVr.out _ (HB.out.trans (hb1.mono HB.out.size))).mono ?_; rintro e w2 ⟨hb2, rfl⟩) | (go_at_call 66; with_reducible refine (H2.out _).mono ?_; rintro e w3 ⟨rfl, hb3⟩) | go_in)
                go_ret2
                have hA := HB.out.trans (hb1.mono HB.out.size)
                have hC := hA.trans (hb2.mono hA.size)
                exact VPost.yes rfl (hC.trans (hb3.mono hC.size))
              · rw [if_neg hd] at hf
                have bd : ((t2[0].toNat : Int) == 93) = false := u8_not (n := 93) (by decide) hd
                subst hf
                clear hc hd
                go_wp2_with (first | (go_at_call 66; with_reducible refine (H1.out _).mono ?_; rintro e w1 ⟨rfl, hb1⟩) | (go_at_call 67; refine (HVr.out _ (HB.out.trans (hb1.mono HB.out.size))).mono ?_; rintro e w2 ⟨hb2, rfl⟩) | (go_at_call 66; with_reducible refine (H2.out _).mono ?_; rintro e w3 ⟨rfl, hb3⟩) | go_in)
                go_ret2
                have hA := HB.out.trans (hb1.mono HB.out.size)
                have hC := hA.trans (hb2.mono hA.size)
                have hD := hC.trans (hb3.mono hC.size)
                exact VPost.no ⟨_, _, _, rfl⟩ (hD.alloc hD.size _)
          · rw [dif_neg hz] at hf
            have bz : (((t2.size : Nat) : Int) == 0) = true := n0_eq (by omega)
            subst hf
            clear hz
            go_wp2_with (first | (go_at_call 66; with_reducible refine (H1.out _).mono ?_; rintro e w1 ⟨rfl, hb1⟩) | (go_at_call 67; refine (HVr.out _ (HB.out.trans (hb1.mono HB.out.size))).mono ?_; rintro e w2 ⟨hb2, rfl⟩) | (go_at_call 66; with_reducible refine (H2.out _).mono ?_; rintro e w3 ⟨rfl, hb3⟩) | go_in)
            go_ret2
            have hA := HB.out.trans (hb1.mono HB.out.size)
            have hC := hA.trans (hb2.mono hA.size)
            have hD := hC.trans (hb3.mono hC.size)
            exact VPost.no ⟨_, _, _, rfl⟩ (hD.alloc hD.size _)
  · rw [dif_neg hz] at ho
    have bz : (((s1.size : Nat) : Int) == 0) = true := n0_eq (by omega)
    subst ho
    clear hz
    go_enter Tryd.func50, Tryd.ntmps50
    go_wp2_with (first | (go_at_call 66; with_reducible refine (H1.out _).mono ?_; rintro e w1 ⟨rfl, hb1⟩) | go_in)
    go_ret2
    exact VPost.no ⟨_, _, _, rfl⟩ (hb1.alloc hb1.size _)
end Go.Proofs.YtnidncohhinjbaaDoor
