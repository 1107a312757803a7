/- The walk of jsonparser's parseQuotedPathKey, for any Unescape and IndexByte that do as told. Conditions: the text takes at most 2^47 - 4096 bytes; the package's error variables hold errors. -/
import Derived.Test.YtnidncohhinjbaaDoorJq1
import Derived.Test.YtnidncohhinjbaaDoorBrow
namespace Go.Proofs.YtnidncohhinjbaaDoor
open Go.RowKit

def IxCalls : Prop := ∀ (x : ByteArray) (W : World), x.size ≤ 140737488351232 → Calls Tryd.prog 62 #[.string x, .int .u8 92] W fun e w' => ∃ n : Int, e = .returned (.int .i64 n) ∧ ((n == -1) = !hasBs x) ∧ Below W.heap.size W w'
/-- U is what Unescape makes of a row of bytes that holds a backslash. -/
def UCalls (G : World → Prop) (U : ByteArray → Option ByteArray) : Prop := ∀ (x : ByteArray) (v : Value) (base : Nat) (W : World), x.size ≤ 140737488351232 → hasBs x = true → Brow W base v x.data.toList → G W →
  Calls Tryd.prog 63 #[v, .slice none 0 0] W fun e w' => Below W.heap.size W w' ∧ ∃ v' er, e = .returned (.tuple #[v', er]) ∧
    match U x with | some y => er = .nilIface ∧ (convert 83 9 v').run Tryd.prog w' = .ok (.string y) w' | none => ∃ t p, er = .iface t p

theorem jq_conv (W : World) (x : ByteArray) (hx : x.size ≤ 140737488351232) : ∃ v1 w1, (convert 9 83 (.string x)).run Tryd.prog W = .ok v1 w1 ∧ Brow w1 W.heap.size v1 x.data.toList ∧ W.grownBy w1 none :=
  ⟨_, _, Lib.run_convert_string_bytes W 9 83 5 x (u := .string) Tryd.underlying9 Tryd.underlying83 Tryd.underlying5, Brow.conv W 5 x (by simp only [maxLen]; omega), grown_bytes W 5 x⟩

set_option maxHeartbeats 4000000 in
set_option maxRecDepth 100000 in
theorem quotedKey_any (G : World → Prop) (hGk : ∀ w w', G w → Below w.heap.size w w' → G w') (U : ByteArray → Option ByteArray) (hI : IxCalls) (hU : UCalls G U) (p : ByteArray) (s : Nat) (w : World) (hs : p.size ≤ 140737488351232 ∧ s < p.size) (hG : GLPath w) (hG2 : G w) :
    Calls Tryd.prog 44 #[.string p, .int .i64 (s : Int)] w (KPost (qkF U p s) w) := by
  obtain ⟨o, ho⟩ : ∃ o, o = qkF U p s := ⟨_, rfl⟩
  rw [← ho]
  unfold qkF at ho
  have HO := Lib.hid ho.symm
  have HI := Lib.hid hI
  have HU := Lib.hid hU
  have HGk := Lib.hid hGk
  have HG2 := Lib.hid hG2
  have HG := Lib.hid hG
  obtain ⟨tm, pm, hm⟩ := hG.2.1
  obtain ⟨tu, pu, hu⟩ := hG.2.2
  clear ho hI hU hGk hG2 hG
  go_enter Tryd.func44, Tryd.ntmps44
  go_wp2
  go_loopg [8] (p.size + 1) (fun g v8 wc => ∃ i : Nat, v8 = .int .i64 (i : Int) ∧ (s + 1 ≤ i ∧ i ≤ p.size ∧ p.size < i + g) ∧ Hid (qkL U g p (s + 1) i = o) ∧ w = wc)
  case atStart => exact ⟨s + 1, by go_num, by omega, HO, rfl⟩
  case round =>
    clear HO
    obtain ⟨i, rfl, hN, HO, rfl⟩ := hrel
    have hf := HO.out
    clear HO
    cases gk with
    | zero => omega
    | succ j =>
    unfold qkL at hf
    by_cases hlt' : i < p.size
    · rw [dif_pos hlt'] at hf
      have hE : i < p.size ∧ s + 1 ≤ i := ⟨hlt', hN.1⟩
      by_cases h92 : p[i]'hE.1 = 92
      · rw [if_pos h92] at hf
        have b92 : (((p[i]'hE.1).toNat : Int) == 92) = true := by rw [h92]; rfl
        clear h92
        by_cases h1 : i + 1 < p.size
        · rw [if_pos h1] at hf
          have HO := Lib.hid hf
          have g1 : decide ((p.size : Int) ≤ (i : Int) + 1) = false := decide_eq_false (by omega)
          have g2 : (p.size ≤ i + 1) = False := eq_false (by omega)
          have hL : i + 1 < p.size ∧ True := ⟨h1, trivial⟩
          clear hf h1
          go_wp2
          go_roundg j
          case rel => exact ⟨i + 2, by go_num, by omega, HO, rfl⟩
          case measure => omega
        · rw [if_neg h1] at hf
          subst hf
          have g1 : decide ((p.size : Int) ≤ (i : Int) + 1) = true := decide_eq_true (by omega)
          have g2 : (p.size ≤ i + 1) = True := eq_true (by omega)
          clear h1
          go_wp2
          go_quiet (fail)
          go_wp2
          go_ret3
          exact ⟨jq_drewN (Below.refl _ _) _, _, _, rfl⟩
      · rw [if_neg h92] at hf
        have b92 : (((p[i]'hE.1).toNat : Int) == 92) = false := jq_not (n := 92) (by decide) h92
        clear h92
        by_cases h34 : p[i]'hE.1 = 34
        · rw [if_pos h34] at hf
          have b34 : (((p[i]'hE.1).toNat : Int) == 34) = true := by rw [h34]; rfl
          clear h34
          have hxs : (p.extract (s + 1) i).size ≤ 140737488351232 := by rw [ByteArray.size_extract]; omega
          have CI := Lib.hid fun W => HI.out (p.extract (s + 1) i) W hxs
          have HXS := Lib.hid hxs
          clear hxs
          by_cases hbs : hasBs (p.extract (s + 1) i) = true
          · rw [if_pos hbs] at hf
            have HF := Lib.hid hf
            have HBS := Lib.hid hbs
            clear hf hbs
            go_upto_region 16 with (first | (go_at_call 62; refine (CI.out _).mono ?_; rintro e w1 ⟨n, rfl, hn, hB1⟩; have bn : (n == -1) = false := (by rw [hn, HBS.out]; rfl); have HB1 := Lib.hid hB1; clear hn hB1) | fail)
            obtain ⟨v2, w2, c2, r2, g2⟩ := jq_conv w1 (p.extract (s + 1) i) HXS.out
            have HB2 := Lib.hid (HB1.out.trans ((show Below w1.heap.size w1 w2 from ⟨g2.os, g2.tape, g2.output, g2.size, fun k hk => g2.block k hk (by simp)⟩).mono HB1.out.size))
            have CU := Lib.hid (HU.out (p.extract (s + 1) i) v2 _ w2 HXS.out HBS.out r2 (HGk.out _ _ HG2.out HB2.out))
            have HS2 := Lib.hid HB2.out.size
            clear r2 g2
            have hf := HF.out
            clear HF
            cases hu2 : U (p.extract (s + 1) i) with
            | some y =>
              rw [hu2] at hf CU
              simp only at hf CU
              subst hf
              clear hu2
              go_wp2_with (first | (go_at_call 63; refine CU.out.mono ?_; rintro e w3 ⟨hB3, v', er, rfl, rfl, hc3⟩; have HB3 := Lib.hid (HB2.out.trans (hB3.mono HS2.out)); clear hB3) | fail)
              go_ret3
              exact ⟨HB3.out, rfl⟩
            | none =>
              rw [hu2] at hf CU
              simp only at hf CU
              subst hf
              clear hu2
              go_wp2_with (first | (go_at_call 63; refine CU.out.mono ?_; rintro e w3 ⟨hB3, v', er, rfl, t3, p3, rfl⟩; have HB3 := Lib.hid (HB2.out.trans (hB3.mono HS2.out)); have hm3 := (HB3.out.cell (World.block_lt_of_cell? w _ hm)).trans hm; clear hB3) | fail)
              go_quiet (fail)
              go_wp2
              go_ret3
              exact ⟨jq_drewN HB3.out _, _, _, rfl⟩
          · rw [if_neg hbs] at hf
            subst hf
            have HBS : Hid (hasBs (p.extract (s + 1) i) = false) := Lib.hid (by simpa using hbs)
            clear hbs
            go_wp2_with (first | (go_at_call 62; refine (CI.out _).mono ?_; rintro e w1 ⟨n, rfl, hn, hB1⟩; have bn : (n == -1) = true := (by rw [hn, HBS.out]; rfl); have HB1 := Lib.hid hB1; clear hn hB1) | fail)
            go_ret3
            exact ⟨HB1.out, rfl⟩
        · rw [if_neg h34] at hf
          have b34 : (((p[i]'hE.1).toNat : Int) == 34) = false := jq_not (n := 34) (by decide) h34
          clear h34
          by_cases h32 : (p[i]'hE.1).toNat < 32
          · rw [if_pos h32] at hf
            subst hf
            have b32 : decide (((p[i]'hE.1).toNat : Int) < 32) = true := decide_eq_true (by omega)
            clear h32
            go_wp2
            go_quiet (fail)
            go_wp2
            go_ret3
            exact ⟨jq_drewN (Below.refl _ _) _, _, _, rfl⟩
          · rw [if_neg h32] at hf
            have HO := Lib.hid hf
            have b32 : decide (((p[i]'hE.1).toNat : Int) < 32) = false := decide_eq_false (by omega)
            clear h32 hf
            go_wp2
            go_roundg j
            case rel => exact ⟨i + 1, by go_num, by omega, HO, rfl⟩
            case measure => omega
    · rw [dif_neg hlt'] at hf
      subst hf
      have hee : i = p.size := by omega
      subst hee
      clear hlt'
      go_wp2
      go_quiet (fail)
      go_wp2
      go_ret3
      exact ⟨jq_drewN (Below.refl _ _) _, _, _, rfl⟩
end Go.Proofs.YtnidncohhinjbaaDoor
