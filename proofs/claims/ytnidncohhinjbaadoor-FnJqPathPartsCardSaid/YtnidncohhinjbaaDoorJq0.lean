/- What jsonparser's path compiler reads, in plain Lean, and the walks of its small functions: zzCount, parseBracketPathComponent. Conditions: the text takes at most 2^47 - 4096 bytes; the package's error variables hold errors. -/
import Derived.Test.YtnidncohhinjbaaDoorProg
import Derived.WalkKit
import Derived.WalkSpells
import Derived.WalkMore
import Derived.WalkSmall
import Derived.Lib.Hide
import Derived.Outline
import Derived.Below
import Derived.Deep.LoopGhost
import Derived.BigQuiet
import Derived.Deep.QuietTactic
import Derived.Deep.DeepCutAuto
import Derived.Deep.CutBlock
namespace Go.Proofs.YtnidncohhinjbaaDoor
open Go.RowKit

/-- The path compiler's errors are errors. -/
def GLPath (w : World) : Prop := (∃ t p, w.cell? ⟨0, 0, none⟩ = some (.iface t p)) ∧ (∃ t p, w.cell? ⟨1, 0, none⟩ = some (.iface t p)) ∧ (∃ t p, w.cell? ⟨2, 0, none⟩ = some (.iface t p))
theorem GLPath.keep {w w' : World} (h : GLPath w) (hb : Below w.heap.size w w') : GLPath w' := by
  obtain ⟨⟨t, p, h0⟩, ⟨t', p', h1⟩, t2, p2, h2⟩ := h
  exact ⟨⟨t, p, (hb.cell (World.block_lt_of_cell? w _ h0)).trans h0⟩, ⟨t', p', (hb.cell (World.block_lt_of_cell? w _ h1)).trans h1⟩, t2, p2, (hb.cell (World.block_lt_of_cell? w _ h2)).trans h2⟩

theorem jq_not {c : UInt8} {n : Nat} (hn : n < 256) (h : c ≠ UInt8.ofNat n) : ((c.toNat : Int) == (n : Int)) = false := by
  rw [beq_eq_false_iff_ne]
  intro e
  exact h (UInt8.toNat_inj.1 (by rw [UInt8.toNat_ofNat']; omega))
theorem jq_drewN {B : Nat} {a w : World} (h : Below B a w) (n : Nat) : Below B a (w.drewN n) := h.trans ⟨rfl, rfl, rfl, Nat.le_refl _, fun _ _ => rfl⟩

/-- A key and the place behind it, or an error. -/
def KPost (o : Option (ByteArray × Nat)) (w : World) : Ending → World → Prop := fun e w' => Below w.heap.size w w' ∧
  match o with | some (s, n) => e = .returned (.tuple #[.string s, .int .i64 (n : Int), .nilIface]) | none => ∃ t p, e = .returned (.tuple #[.string ⟨#[]⟩, .int .i64 0, .iface t p])

/-- The bracket that closes, from place e on. -/
def brEnd : Nat → ByteArray → Nat → Option Nat
  | 0, _, _ => none
  | k + 1, p, e => if h : e < p.size then (if p[e] = 93 then some e else if p[e] = 91 then none else if p[e] = 34 then none else brEnd k p (e + 1)) else none
/-- Digits alone, from place i to place e. -/
def brDig : Nat → ByteArray → Nat → Nat → Bool
  | 0, _, _, _ => true
  | k + 1, p, i, e => if h : i < p.size then (if i < e then (if 48 ≤ p[i].toNat ∧ p[i].toNat ≤ 57 then brDig k p (i + 1) e else false) else true) else true
def brF (p : ByteArray) (s : Nat) : Option (ByteArray × Nat) :=
  match brEnd (p.size + 1) p (s + 1) with
  | none => none
  | some e => if e = s + 1 then none else if h : s + 1 < p.size then (if p[s + 1] = 42 then (if e = s + 2 then some (p.extract s (e + 1), e + 1) else none) else if brDig (p.size + 1) p (s + 1) e = true then some (p.extract s (e + 1), e + 1) else none) else none

theorem brEnd_lt : ∀ (k : Nat) (p : ByteArray) (e r : Nat), brEnd k p e = some r → e ≤ r ∧ r < p.size
  | 0, _, _, _, h => by simp [brEnd] at h
  | k + 1, p, e, r, h => by
    unfold brEnd at h
    split at h
    · rename_i hlt
      split at h
      · obtain rfl := Option.some.inj h
        exact ⟨Nat.le_refl _, hlt⟩
      · split at h
        · cases h
        · split at h
          · cases h
          · have := brEnd_lt k p (e + 1) r h
            omega
    · cases h

set_option maxHeartbeats 4000000 in
set_option maxRecDepth 100000 in
theorem bracket_any (p : ByteArray) (s : Nat) (w : World) (hs : p.size ≤ 140737488351232 ∧ s < p.size) (hG : GLPath w) :
    Calls Tryd.prog 45 #[.string p, .int .i64 (s : Int)] w (KPost (brF p s) w) := by
  obtain ⟨tm, pm, hm⟩ := hG.2.1
  clear hG
  obtain ⟨o, ho⟩ : ∃ o, o = brF p s := ⟨_, rfl⟩
  rw [← ho]
  obtain ⟨b, hb⟩ : ∃ b, b = brEnd (p.size + 1) p (s + 1) := ⟨_, rfl⟩
  unfold brF at ho
  rw [← hb] at ho
  have HO := Lib.hid ho
  have HB := Lib.hid hb.symm
  clear ho hb
  go_enter Tryd.func45, Tryd.ntmps45
  go_wp2
  go_loopg [7] (p.size + 1) (fun g v7 wc => ∃ e : Nat, v7 = .int .i64 (e : Int) ∧ (e ≤ p.size ∧ p.size < e + g ∧ s + 1 ≤ e) ∧ Hid (brEnd g p e = b) ∧ w = wc)
  case atStart => exact ⟨s + 1, by go_num, by omega, HB, rfl⟩
  case round =>
    clear HB
    obtain ⟨e, rfl, hN, HB, rfl⟩ := hrel
    have hf := HB.out
    clear HB
    cases gk with
    | zero => omega
    | succ j =>
    unfold brEnd at hf
    by_cases hlt' : e < p.size
    · rw [dif_pos hlt'] at hf
      have hE : e < p.size ∧ s + 1 ≤ e := ⟨hlt', hN.2.2⟩
      by_cases h93 : p[e]'hE.1 = 93
      · rw [if_pos h93] at hf
        have v93 : ((p[e]'hE.1).toNat : Int) = 93 := by rw [h93]; rfl
        have b93 : (((p[e]'hE.1).toNat : Int) == 93) = true := by rw [h93]; rfl
        have n93 : (((p[e]'hE.1).toNat : Int) != 93) = false := by rw [h93]; rfl
        have ho := HO.out
        rw [← hf] at ho
        simp only at ho
        have eln : ((e : Int) == (p.size : Int)) = false := by rw [beq_eq_false_iff_ne]; omega
        clear HO hf h93 hlt' v93
        by_cases h1 : e = s + 1
        · rw [if_pos h1] at ho
          subst ho
          have e1 : ((e : Int) == (s : Int) + 1) = true := by rw [h1]; simp
          clear h1
          go_wp2
          go_quiet (fail)
          go_wp2
          go_ret3
          exact ⟨jq_drewN (Below.refl _ _) _, _, _, rfl⟩
        · rw [if_neg h1, dif_pos (by omega)] at ho
          have e1 : ((e : Int) == (s : Int) + 1) = false := by rw [beq_eq_false_iff_ne]; omega
          have hS : s + 1 < p.size ∧ s + 2 ≤ e := ⟨by omega, by omega⟩
          clear h1
          by_cases h42 : p[s + 1]'hS.1 = 42
          · have b42 : (((p[s + 1]'hS.1).toNat : Int) == 42) = true := by rw [h42]; rfl
            rw [if_pos h42] at ho
            clear h42
            by_cases h2 : e = s + 2
            · rw [if_pos h2] at ho
              subst ho
              have e2 : ((e : Int) == (s : Int) + 2) = true := by rw [h2]; simp
              have e3 : ((e : Int) != (s : Int) + 2) = false := by rw [h2]; simp
              clear h2
              go_wp2
              go_ret3
              exact ⟨Below.refl _ _, rfl⟩
            · rw [if_neg h2] at ho
              subst ho
              have e2 : ((e : Int) == (s : Int) + 2) = false := by rw [beq_eq_false_iff_ne]; omega
              have e3 : ((e : Int) != (s : Int) + 2) = true := by rw [bne, e2]; rfl
              clear h2
              go_wp2
              go_quiet (fail)
              go_wp2
              go_ret3
              exact ⟨jq_drewN (Below.refl _ _) _, _, _, rfl⟩
          · have b42 : (((p[s + 1]'hS.1).toNat : Int) == 42) = false := jq_not (n := 42) (by decide) h42
            rw [if_neg h42] at ho
            clear h42
            obtain ⟨bd, hbd⟩ : ∃ bd, bd = brDig (p.size + 1) p (s + 1) e := ⟨_, rfl⟩
            rw [← hbd] at ho
            have HO := Lib.hid ho
            have HD := Lib.hid hbd.symm
            clear ho hbd
            go_wp2
            go_loopg [8] (p.size + 1) (fun g v8 wc => ∃ i : Nat, v8 = .int .i64 (i : Int) ∧ (s + 1 ≤ i ∧ i ≤ e ∧ p.size < i + g) ∧ Hid (brDig g p i e = bd) ∧ w = wc)
            case atStart => exact ⟨s + 1, by go_num, by omega, HD, rfl⟩
            case round =>
              clear HD
              obtain ⟨i, rfl, hI, HD, rfl⟩ := hrel
              have hd := HD.out
              clear HD
              cases gk with
              | zero => omega
              | succ j2 =>
              unfold brDig at hd
              rw [dif_pos (by omega)] at hd
              by_cases hie : i < e
              · rw [if_pos hie] at hd
                have hJ : i < p.size ∧ i < e := ⟨by omega, hie⟩
                have bi : decide ((i : Int) < (e : Int)) = true := decide_eq_true (by omega)
                have bi2 : (i < e) = True := eq_true hie
                clear hie
                by_cases h48 : 48 ≤ (p[i]'hJ.1).toNat
                · have b48 : decide (((p[i]'hJ.1).toNat : Int) < 48) = false := decide_eq_false (by omega)
                  by_cases h57 : (p[i]'hJ.1).toNat ≤ 57
                  · have b57 : decide (57 < ((p[i]'hJ.1).toNat : Int)) = false := decide_eq_false (by omega)
                    rw [if_pos ⟨h48, h57⟩] at hd
                    have HD := Lib.hid hd
                    clear hd h48 h57
                    go_wp2
                    go_roundg j2
                    case rel => exact ⟨i + 1, by go_num, by omega, HD, rfl⟩
                    case measure => omega
                  · have b57 : decide (57 < ((p[i]'hJ.1).toNat : Int)) = true := decide_eq_true (by omega)
                    rw [if_neg (fun h => h57 h.2)] at hd
                    have ho := HO.out
                    rw [← hd, if_neg (by decide)] at ho
                    subst ho
                    clear HO hd h48 h57
                    go_wp2
                    go_quiet (fail)
                    go_wp2
                    go_ret3
                    exact ⟨jq_drewN (Below.refl _ _) _, _, _, rfl⟩
                · have b48 : decide (((p[i]'hJ.1).toNat : Int) < 48) = true := decide_eq_true (by omega)
                  rw [if_neg (fun h => h48 h.1)] at hd
                  have ho := HO.out
                  rw [← hd, if_neg (by decide)] at ho
                  subst ho
                  clear HO hd h48
                  go_wp2
                  go_quiet (fail)
                  go_wp2
                  go_ret3
                  exact ⟨jq_drewN (Below.refl _ _) _, _, _, rfl⟩
              · rw [if_neg hie] at hd
                have bi : decide ((i : Int) < (e : Int)) = false := decide_eq_false (by omega)
                have bi2 : (i < e) = False := eq_false hie
                have ho := HO.out
                rw [← hd, if_pos rfl] at ho
                subst ho
                clear HO hd hie
                go_wp2
                go_ret3
                exact ⟨Below.refl _ _, rfl⟩
      · rw [if_neg h93] at hf
        have b93 : (((p[e]'hE.1).toNat : Int) == 93) = false := jq_not (n := 93) (by decide) h93
        have n93 : (((p[e]'hE.1).toNat : Int) != 93) = true := by rw [bne, b93]; rfl
        clear h93
        by_cases h91 : p[e]'hE.1 = 91
        · rw [if_pos h91] at hf
          have b91 : (((p[e]'hE.1).toNat : Int) == 91) = true := by rw [h91]; rfl
          have ho := HO.out
          rw [← hf] at ho
          simp only at ho
          subst ho
          clear HO hf h91
          go_wp2
          go_quiet (fail)
          go_wp2
          go_ret3
          exact ⟨jq_drewN (Below.refl _ _) _, _, _, rfl⟩
        · rw [if_neg h91] at hf
          have b91 : (((p[e]'hE.1).toNat : Int) == 91) = false := jq_not (n := 91) (by decide) h91
          clear h91
          by_cases h34 : p[e]'hE.1 = 34
          · rw [if_pos h34] at hf
            have b34 : (((p[e]'hE.1).toNat : Int) == 34) = true := by rw [h34]; rfl
            have ho := HO.out
            rw [← hf] at ho
            simp only at ho
            subst ho
            clear HO hf h34
            go_wp2
            go_quiet (fail)
            go_wp2
            go_ret3
            exact ⟨jq_drewN (Below.refl _ _) _, _, _, rfl⟩
          · rw [if_neg h34] at hf
            have b34 : (((p[e]'hE.1).toNat : Int) == 34) = false := jq_not (n := 34) (by decide) h34
            have HB := Lib.hid hf
            clear h34 hf
            go_wp2
            go_roundg j
            case rel => exact ⟨e + 1, by go_num, by omega, HB, rfl⟩
            case measure => omega
    · rw [dif_neg hlt'] at hf
      have hee : e = p.size := by omega
      have ho := HO.out
      rw [← hf] at ho
      simp only at ho
      subst ho
      subst hee
      clear HO hf hlt'
      go_wp2
      go_quiet (fail)
      go_wp2
      go_ret3
      exact ⟨jq_drewN (Below.refl _ _) _, _, _, rfl⟩
set_option maxHeartbeats 1000000 in
set_option maxRecDepth 100000 in
theorem zzCount_any (p : ByteArray) (c : UInt8) (w : World) (hs : p.size ≤ 140737488351232 ∧ True) :
    Calls Tryd.prog 43 #[.string p, .string ⟨#[c]⟩] w fun e w' => ∃ n : Nat, n ≤ p.size ∧ e = .returned (.int .i64 (n : Int)) ∧ Below w.heap.size w w' := by
  obtain ⟨u, hu⟩ : ∃ u : ByteArray, u = ⟨#[c]⟩ := ⟨_, rfl⟩
  rw [← hu]
  have hu1 : u.size = 1 := by rw [hu]; rfl
  have b0 : ((u.size : Int) == 0) = false := by rw [hu1]; rfl
  clear hu
  go_enter Tryd.func43, Tryd.ntmps43
  go_wp2
  go_loopg [5, 6] (p.size + 1) (fun g v5 v6 wc => ∃ n i : Nat, v5 = .int .i64 (n : Int) ∧ v6 = .int .i64 (i : Int) ∧ (n ≤ i ∧ i ≤ p.size ∧ p.size < i + g) ∧ w = wc)
  case atStart => exact ⟨0, 0, by go_num, by go_num, by omega, rfl⟩
  case round =>
    obtain ⟨n, i, rfl, rfl, hN, rfl⟩ := hrel
    cases gk with
    | zero => omega
    | succ j =>
    by_cases hlt : i + 1 ≤ p.size
    · have hL : i + 1 ≤ p.size ∧ True := ⟨hlt, trivial⟩
      have bl : decide ((i : Int) + (u.size : Int) ≤ (p.size : Int)) = true := decide_eq_true (by omega)
      have bl2 : (i + 1 ≤ p.size) = True := eq_true hlt
      have bl3 : decide ((i : Int) + 1 ≤ (p.size : Int)) = true := decide_eq_true (by omega)
      have bl4 : ((i : Int) + 1 ≤ (p.size : Int)) = True := eq_true (by omega)
      clear hlt
      by_cases hc : (p.extract i (i + 1)).toList = u.toList
      · have bc : ((p.extract i (i + 1)).toList == u.toList) = true := by simpa using hc
        clear hc
        go_wp2
        go_roundg j
        case rel => exact ⟨n + 1, i + 1, by go_num, by go_num, by omega, rfl⟩
        case measure => omega
      · have bc : ((p.extract i (i + 1)).toList == u.toList) = false := by simpa using hc
        clear hc
        go_wp2
        go_roundg j
        case rel => exact ⟨n, i + 1, by go_num, by go_num, by omega, rfl⟩
        case measure => omega
    · have bl : decide ((i : Int) + (u.size : Int) ≤ (p.size : Int)) = false := decide_eq_false (by omega)
      have bl2 : (i + 1 ≤ p.size) = False := eq_false hlt
      have bl3 : decide ((i : Int) + 1 ≤ (p.size : Int)) = false := decide_eq_false (by omega)
      have bl4 : ((i : Int) + 1 ≤ (p.size : Int)) = False := eq_false (by omega)
      clear hlt
      go_wp2
      go_ret
      exact ⟨n, by omega, rfl, Below.refl _ _⟩
end Go.Proofs.YtnidncohhinjbaaDoor
