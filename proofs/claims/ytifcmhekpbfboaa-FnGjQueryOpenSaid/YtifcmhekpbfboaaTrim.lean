/- The walk of gjson's trim: blanks and control characters are taken from a text's ends. Condition: the text takes at most 2^47 - 4096 bytes (in the list function). -/
import Derived.Test.YtifcmhekpbfboaaProg
import Derived.WalkKit
import Derived.WalkSpells
import Derived.WalkMore
import Derived.ScopeJumps
import Derived.Lib.Hide
import Derived.Outline
namespace Go.Proofs.Ytifcmhekpbfboaa
open Go.RowKit

/-- As Q; by a goto to label l: J l. -/
def jumpsTo (J : Nat → Act → World → Prop) (Q : Exit → Act → World → Prop) : Exit → Act → World → Prop
  | .goto l, a, w => J l a w
  | e, a, w => Q e a w

theorem wp_scope_labels {P : Program} {a : Act} {w : World} {Q : Exit → Act → World → Prop} {c : Code} (J : Nat → Act → World → Prop) (μ : Nat → Act → World → Nat)
    (first : c.wp P (jumpsTo J Q) a w)
    (pass : ∀ l a w, J l a w → ∃ rest, findLabel c l = some rest ∧ rest.wp P (jumpsTo (fun l' a' w' => J l' a' w' ∧ μ l' a' w' < μ l a w) Q) a w) : (Code.scope c).wp P Q a w := by
  intro b k cs
  have hg : ∀ l rest, findLabel c l = some rest → gotoIn l (.inScope c :: k) = some (.code rest :: .inScope c :: k) := fun l rest hf => by simp [gotoIn, hf]
  have key : ∀ n l a w rest, μ l a w = n → J l a w → findLabel c l = some rest → ∃ e a' w', Q e a' w' ∧ Arrives P (lone (b.at a (.code rest :: .inScope c :: k)) cs w) b k cs e a' w' := by
    intro n
    induction n using Nat.strongRecOn with
    | _ n ih =>
      intro l a w rest hn hJ hf
      obtain ⟨rest', hf', hw⟩ := pass l a w hJ
      obtain rfl : rest = rest' := by rw [hf] at hf'; simpa using hf'
      obtain ⟨e, a₁, w₁, hq, harr⟩ := hw b (.inScope c :: k) cs
      cases e with
      | normal => exact ⟨.normal, a₁, w₁, hq, Steps.trans harr (.one step_inScope)⟩
      | exit id => exact ⟨.exit id, a₁, w₁, hq, fun k' hk => harr k' (by simp [exitTo, hk])⟩
      | goto l' =>
        obtain ⟨hJ', hlt⟩ := hq
        obtain ⟨rest₂, hf₂, _⟩ := pass l' a₁ w₁ hJ'
        obtain ⟨e₂, a₂, w₂, hq₂, harr₂⟩ := ih _ (by omega) l' a₁ w₁ rest₂ rfl hJ' hf₂
        exact ⟨e₂, a₂, w₂, hq₂, .of_steps (harr _ (hg _ _ hf₂)) harr₂⟩
      | ret => exact ⟨_, a₁, w₁, hq, harr⟩
      | panic ch => exact ⟨_, a₁, w₁, hq, harr⟩
      | outgrown => exact ⟨_, a₁, w₁, hq, harr⟩
  obtain ⟨e, a₁, w₁, hq, harr⟩ := first b (.inScope c :: k) cs
  cases e with
  | normal => exact ⟨.normal, a₁, w₁, hq, .head step_scope (Steps.trans harr (.one step_inScope))⟩
  | exit id => exact ⟨.exit id, a₁, w₁, hq, fun k' hk => .head step_scope (harr k' (by simp [exitTo, hk]))⟩
  | goto l' =>
    obtain ⟨rest₂, hf₂, _⟩ := pass l' a₁ w₁ hq
    obtain ⟨e₂, a₂, w₂, hq₂, harr₂⟩ := key _ l' a₁ w₁ rest₂ rfl hq hf₂
    exact ⟨e₂, a₂, w₂, hq₂, .of_steps (.head step_scope (harr _ (hg _ _ hf₂))) harr₂⟩
  | ret => exact ⟨_, a₁, w₁, hq, .of_steps (.one step_scope) harr⟩
  | panic ch => exact ⟨_, a₁, w₁, hq, .of_steps (.one step_scope) harr⟩
  | outgrown => exact ⟨_, a₁, w₁, hq, .of_steps (.one step_scope) harr⟩

/-- The text without the blanks that it begins with (at most n of them). -/
def trimA : Nat → ByteArray → ByteArray
  | 0, s => s
  | n + 1, s => if h : 0 < s.size then (if s[0] ≤ 32 then trimA n (s.extract 1 s.size) else s) else s
/-- .. that it ends with. -/
def trimZ : Nat → ByteArray → ByteArray
  | 0, s => s
  | n + 1, s => if h : 0 < s.size then (if s[s.size - 1] ≤ 32 then trimZ n (s.extract 0 (s.size - 1)) else s) else s
def trimS (s : ByteArray) : ByteArray := trimZ (trimA s.size s).size (trimA s.size s)

def gjson_trim.f (s : ByteArray) : Option ByteArray := if s.size ≤ 140737488351232 then some (trimS s) else none

theorem trimZ_step {t : ByteArray} (h : 0 < t.size) (h32 : t[t.size - 1] ≤ 32) : trimZ t.size t = trimZ (t.extract 0 (t.size - 1)).size (t.extract 0 (t.size - 1)) := by
  obtain ⟨n, hn⟩ : ∃ n, t.size = n + 1 := ⟨t.size - 1, by omega⟩
  have e : (t.extract 0 (t.size - 1)).size = n := by rw [ByteArray.size_extract]; omega
  rw [e]
  conv => lhs; rw [hn]
  conv => lhs; unfold trimZ
  rw [dif_pos h, if_pos h32]
theorem trimZ_stop {t : ByteArray} {n : Nat} (h : 0 < t.size) (h32 : ¬ t[t.size - 1] ≤ 32) : trimZ n t = t := by
  cases n with
  | zero => rfl
  | succ n => unfold trimZ; rw [dif_pos h, if_neg h32]
theorem trimZ_nil {t : ByteArray} {n : Nat} (h : ¬ 0 < t.size) : trimZ n t = t := by
  cases n with
  | zero => rfl
  | succ n => unfold trimZ; rw [dif_neg h]
theorem trimA_step {t : ByteArray} (h : 0 < t.size) (h32 : t[0] ≤ 32) : trimA t.size t = trimA (t.extract 1 t.size).size (t.extract 1 t.size) := by
  obtain ⟨n, hn⟩ : ∃ n, t.size = n + 1 := ⟨t.size - 1, by omega⟩
  have e : (t.extract 1 t.size).size = n := by rw [ByteArray.size_extract]; omega
  rw [e]
  conv => lhs; rw [hn]
  conv => lhs; unfold trimA
  rw [dif_pos h, if_pos h32]
theorem trimA_stop {t : ByteArray} {n : Nat} (h : 0 < t.size) (h32 : ¬ t[0] ≤ 32) : trimA n t = t := by
  cases n with
  | zero => rfl
  | succ n => unfold trimA; rw [dif_pos h, if_neg h32]
theorem trimA_nil {t : ByteArray} {n : Nat} (h : ¬ 0 < t.size) : trimA n t = t := by
  cases n with
  | zero => rfl
  | succ n => unfold trimA; rw [dif_neg h]
theorem trimS_step {t : ByteArray} (h : 0 < t.size) (h32 : t[0] ≤ 32) : trimS t = trimS (t.extract 1 t.size) := by unfold trimS; rw [trimA_step h h32]
theorem trimS_left {t : ByteArray} (h : trimA t.size t = t) : trimS t = trimZ t.size t := by unfold trimS; rw [h]

theorem u8_le {c : UInt8} (h : c ≤ 32) : decide ((c.toNat : Int) ≤ 32) = true := decide_eq_true (by have h2 : c.toNat ≤ 32 := UInt8.le_iff_toNat_le.1 h; omega)
theorem u8_nle {c : UInt8} (h : ¬ c ≤ 32) : decide ((c.toNat : Int) ≤ 32) = false := decide_eq_false (fun h1 => h (UInt8.le_iff_toNat_le.2 (show c.toNat ≤ 32 by omega)))

def TrimJ (s : ByteArray) (w : World) : Nat → Act → World → Prop
  | 0, a, w' => w' = w ∧ ∃ (t : ByteArray) (u3 u4 u5 u6 u7 u8 u9 u10 u11 u12 : Value), a = { tmps := #[.string t, undef, .string ⟨#[]⟩, u3, u4, u5, u6, u7, u8, u9, u10, u11, u12, undef, undef, undef, undef, undef, undef, undef, undef, undef, undef, undef, undef, undef, undef, undef, undef, undef], defers := [] } ∧ t.size ≤ s.size ∧ Hid (trimS t = trimS s)
  | 1, a, w' => w' = w ∧ ∃ (t : ByteArray) (u3 u4 u5 u6 u7 u8 u9 u10 u11 u12 u13 u14 u15 u16 u17 u18 u19 u20 u21 u22 u23 u24 u25 u26 u27 u28 : Value), a = { tmps := #[.string t, undef, .string ⟨#[]⟩, u3, u4, u5, u6, u7, u8, u9, u10, u11, u12, u13, u14, u15, u16, u17, u18, u19, u20, u21, u22, u23, u24, u25, u26, u27, u28, undef], defers := [] } ∧ t.size ≤ s.size ∧ Hid (trimZ t.size t = trimS s)
  | _, _, _ => False

def sizeAt (a : Act) : Nat := match a.tmps.getD 0 undef with | .string t => t.size | _ => 0

set_option maxHeartbeats 2000000 in
set_option maxRecDepth 100000 in
theorem trim_any (s : ByteArray) (w : World) (hs : s.size ≤ 140737488351232) : Calls Try.prog 57 #[.string s] w fun e w' => e = .returned (.string (trimS s)) ∧ w' = w := by
  go_enter Try.func57, Try.ntmps57
  go_wp2
  refine wp_scope_labels (TrimJ s w) (fun _ a _ => sizeAt a) ?_ ?_
  · go_wp2
    go_step3
    have HS : Hid (trimS s = trimS s) := Lib.hid rfl
    by_cases hy : 0 < s.size
    · have ey : decide (0 < s.size) = true := decide_eq_true hy
      by_cases g32 : s[0] ≤ 32
      · have c1 := u8_le g32
        have HN : Hid (trimS (s.extract 1 s.size) = trimS s) := Lib.hid ((trimS_step hy g32).symm.trans HS.out)
        have hsz : (s.extract 1 s.size).size < s.size := by rw [ByteArray.size_extract]; omega
        clear g32
        go_wp2
        go_step3
        exact ⟨rfl, _, _, _, _, _, _, _, _, _, _, _, rfl, by omega, HN⟩
      · skip
        have HT : Hid (trimZ s.size s = trimS s) := Lib.hid ((trimS_left (trimA_stop hy g32)).symm.trans HS.out)
        have c1 := u8_nle g32
        clear g32
        by_cases h32 : s[s.size - 1] ≤ 32
        · have b1 := u8_le h32
          have HN : Hid (trimZ (s.extract 0 (s.size - 1)).size (s.extract 0 (s.size - 1)) = trimS s) := Lib.hid ((trimZ_step hy h32).symm.trans HT.out)
          have hsz : (s.extract 0 (s.size - 1)).size < s.size := by rw [ByteArray.size_extract]; omega
          clear h32
          go_wp2
          go_step3
          go_wp2
          go_step3
          exact ⟨rfl, _, _, _, _, _, _, _, _, _, _, _, _, _, _, _, _, _, _, _, _, _, _, _, _, _, _, _, rfl, by omega, HN⟩
        · have b1 := u8_nle h32
          have HN : Hid (s = trimS s) := Lib.hid ((trimZ_stop hy h32).symm.trans HT.out)
          clear h32
          go_wp2
          go_step3
          go_wp2
          simp only [jumpsTo]
          go_ret
          exact ⟨by rw [← HN.out]; rfl, rfl⟩
    · have ey : decide (0 < s.size) = false := decide_eq_false hy
      have HT : Hid (trimZ s.size s = trimS s) := Lib.hid ((trimS_left (trimA_nil hy)).symm.trans HS.out)
      have HN : Hid (s = trimS s) := Lib.hid ((trimZ_nil hy).symm.trans HT.out)
      go_wp2
      go_step3
      go_wp2
      simp only [jumpsTo]
      go_ret
      exact ⟨by rw [← HN.out]; rfl, rfl⟩
  · intro l a w' h
    match l, h with
    | 0, h =>
      obtain ⟨rfl, t, u3, u4, u5, u6, u7, u8, u9, u10, u11, u12, rfl, hts, HS⟩ := h
      refine ⟨_, rfl, ?_⟩
      by_cases hy : 0 < t.size
      · have ey : decide (0 < t.size) = true := decide_eq_true hy
        by_cases g32 : t[0] ≤ 32
        · have c1 := u8_le g32
          have HN : Hid (trimS (t.extract 1 t.size) = trimS s) := Lib.hid ((trimS_step hy g32).symm.trans HS.out)
          have hsz : (t.extract 1 t.size).size < t.size := by rw [ByteArray.size_extract]; omega
          clear g32
          go_wp2
          go_step3
          exact ⟨⟨rfl, _, _, _, _, _, _, _, _, _, _, _, rfl, by omega, HN⟩, hsz⟩
        · skip
          have HT : Hid (trimZ t.size t = trimS s) := Lib.hid ((trimS_left (trimA_stop hy g32)).symm.trans HS.out)
          have c1 := u8_nle g32
          clear g32
          by_cases h32 : t[t.size - 1] ≤ 32
          · have b1 := u8_le h32
            have HN : Hid (trimZ (t.extract 0 (t.size - 1)).size (t.extract 0 (t.size - 1)) = trimS s) := Lib.hid ((trimZ_step hy h32).symm.trans HT.out)
            have hsz : (t.extract 0 (t.size - 1)).size < t.size := by rw [ByteArray.size_extract]; omega
            clear h32
            go_wp2
            go_step3
            go_wp2
            go_step3
            exact ⟨⟨rfl, _, _, _, _, _, _, _, _, _, _, _, _, _, _, _, _, _, _, _, _, _, _, _, _, _, _, _, rfl, by omega, HN⟩, hsz⟩
          · have b1 := u8_nle h32
            have HN : Hid (t = trimS s) := Lib.hid ((trimZ_stop hy h32).symm.trans HT.out)
            clear h32
            go_wp2
            go_step3
            go_wp2
            simp only [jumpsTo]
            go_ret
            exact ⟨by rw [← HN.out]; rfl, rfl⟩
      · have ey : decide (0 < t.size) = false := decide_eq_false hy
        have HT : Hid (trimZ t.size t = trimS s) := Lib.hid ((trimS_left (trimA_nil hy)).symm.trans HS.out)
        have HN : Hid (t = trimS s) := Lib.hid ((trimZ_nil hy).symm.trans HT.out)
        go_wp2
        go_step3
        go_wp2
        simp only [jumpsTo]
        go_ret
        exact ⟨by rw [← HN.out]; rfl, rfl⟩
    | 1, h =>
      obtain ⟨rfl, t, u3, u4, u5, u6, u7, u8, u9, u10, u11, u12, u13, u14, u15, u16, u17, u18, u19, u20, u21, u22, u23, u24, u25, u26, u27, u28, rfl, hts, HT⟩ := h
      refine ⟨_, rfl, ?_⟩
      by_cases hz : 0 < t.size
      · have ez : decide (0 < t.size) = true := decide_eq_true hz
        by_cases h32 : t[t.size - 1] ≤ 32
        · have b1 := u8_le h32
          have HN : Hid (trimZ (t.extract 0 (t.size - 1)).size (t.extract 0 (t.size - 1)) = trimS s) := Lib.hid ((trimZ_step hz h32).symm.trans HT.out)
          have hsz : (t.extract 0 (t.size - 1)).size < t.size := by rw [ByteArray.size_extract]; omega
          clear h32
          go_wp2
          go_step3
          exact ⟨⟨rfl, _, _, _, _, _, _, _, _, _, _, _, _, _, _, _, _, _, _, _, _, _, _, _, _, _, _, _, rfl, by omega, HN⟩, hsz⟩
        · have b1 := u8_nle h32
          have HN : Hid (t = trimS s) := Lib.hid ((trimZ_stop hz h32).symm.trans HT.out)
          clear h32
          go_wp2
          simp only [jumpsTo]
          go_ret
          exact ⟨by rw [← HN.out]; rfl, rfl⟩
      · have ez : decide (0 < t.size) = false := decide_eq_false hz
        have HN : Hid (t = trimS s) := Lib.hid ((trimZ_nil hz).symm.trans HT.out)
        go_wp2
        simp only [jumpsTo]
        go_ret
        exact ⟨by rw [← HN.out]; rfl, rfl⟩

end Go.Proofs.Ytifcmhekpbfboaa
