/- What gjson's parseSquash looks for, in plain Lean, byte by byte; and what its table holds. No condition. -/
import Derived.Test.YtifcmhekpbfboaaDoorProg
import Derived.WalkKit
import Derived.WalkSpells
import Derived.WalkMore
import Derived.ScopeJumps
import Derived.Lib.Hide
import Derived.Outline
import Derived.Below
import Derived.Deep.LoopGhost
import Derived.BigQuiet
import Derived.Deep.QuietTactic
import Derived.Deep.DeepCutAuto
import Derived.Deep.CutBlock
namespace Go.Proofs.YtifcmhekpbfboaaDoor
open Go.RowKit

/-- As Q; by a goto to label l: J l. -/
def jumpsTo (J : Nat → Act → World → Prop) (Q : Exit → Act → World → Prop) : Exit → Act → World → Prop
  | .goto l, a, w => J l a w
  | e, a, w => Q e a w

theorem wp_scope_labels {P : Program} {a : Act} {w : World} {Q : Exit → Act → World → Prop} {c : Code} (J : Nat → Act → World → Prop) (μ : Nat → Act → World → Nat)
    (first : c.wp P (jumpsTo J Q) a w)
    (pass : ∀ l a w, J l a w → ∃ rest, findLabel c l = some rest ∧ rest.wp P (jumpsTo (fun l' a' w' => J l' a' w' ∧ μ l' a' w' < μ l a w) Q) a w) : (Code.scope c).wp P Q a w := by
  intro b k cs
  have hg : ∀ l rest, findLabel c l = some rest → gotoIn l (.inScope c :: k) = some (.code rest :: .inScope c :: k) := fun l rest hf => by simp [gotoIn, hf]
  have key : ∀ n l a w rest, μ l a w = n → J l a w → findLabel c l = some rest → ∃ e a' w', Q e a' w' ∧ Arrives P (lone (b.at a (.code rest :: .inScope c :: k)) cs w) b k cs e a' w' := by
    intro n
    induction n using Nat.strongRecOn with
    | _ n ih =>
      intro l a w rest hn hJ hf
      obtain ⟨rest', hf', hw⟩ := pass l a w hJ
      obtain rfl : rest = rest' := by rw [hf] at hf'; simpa using hf'
      obtain ⟨e, a₁, w₁, hq, harr⟩ := hw b (.inScope c :: k) cs
      cases e with
      | normal => exact ⟨.normal, a₁, w₁, hq, Steps.trans harr (.one step_inScope)⟩
      | exit id => exact ⟨.exit id, a₁, w₁, hq, fun k' hk => harr k' (by simp [exitTo, hk])⟩
      | goto l' =>
        obtain ⟨hJ', hlt⟩ := hq
        obtain ⟨rest₂, hf₂, _⟩ := pass l' a₁ w₁ hJ'
        obtain ⟨e₂, a₂, w₂, hq₂, harr₂⟩ := ih _ (by omega) l' a₁ w₁ rest₂ rfl hJ' hf₂
        exact ⟨e₂, a₂, w₂, hq₂, .of_steps (harr _ (hg _ _ hf₂)) harr₂⟩
      | ret => exact ⟨_, a₁, w₁, hq, harr⟩
      | panic ch => exact ⟨_, a₁, w₁, hq, harr⟩
      | outgrown => exact ⟨_, a₁, w₁, hq, harr⟩
  obtain ⟨e, a₁, w₁, hq, harr⟩ := first b (.inScope c :: k) cs
  cases e with
  | normal => exact ⟨.normal, a₁, w₁, hq, .head step_scope (Steps.trans harr (.one step_inScope))⟩
  | exit id => exact ⟨.exit id, a₁, w₁, hq, fun k' hk => .head step_scope (harr k' (by simp [exitTo, hk]))⟩
  | goto l' =>
    obtain ⟨rest₂, hf₂, _⟩ := pass l' a₁ w₁ hq
    obtain ⟨e₂, a₂, w₂, hq₂, harr₂⟩ := key _ l' a₁ w₁ rest₂ rfl hq hf₂
    exact ⟨e₂, a₂, w₂, hq₂, .of_steps (.head step_scope (harr _ (hg _ _ hf₂))) harr₂⟩
  | ret => exact ⟨_, a₁, w₁, hq, .of_steps (.one step_scope) harr⟩
  | panic ch => exact ⟨_, a₁, w₁, hq, .of_steps (.one step_scope) harr⟩
  | outgrown => exact ⟨_, a₁, w₁, hq, .of_steps (.one step_scope) harr⟩

def opensC (c : UInt8) : Bool := c == 91 || c == 123 || c == 40
def closesC (c : UInt8) : Bool := c == 93 || c == 125 || c == 41
def vch (c : UInt8) : Nat := if c = 34 then 2 else if opensC c = true then 3 else if closesC c = true then 1 else 0

/-- The bytes behind the bracket that closes; m: none outside of strings, in a string whether the byte is taken in by a backslash; d: how many brackets are open. -/
def sq : List UInt8 → Option Bool → Nat → Option Nat
  | [], _, _ => none
  | c :: r, none, d => if c = 34 then sq r (some false) d else if opensC c = true then sq r none (d + 1) else if closesC c = true then (if d ≤ 1 then some r.length else sq r none (d - 1)) else sq r none d
  | c :: r, some f, d => if c = 34 ∧ f = false then sq r none d else sq r (some (c == 92 && !f)) d

/-- Whether the byte at i is taken in by a backslash, in a string whose inside begins at s2. -/
def fl (t : ByteArray) (s2 : Nat) : Nat → Bool
  | 0 => false
  | i + 1 => if s2 ≤ i then (if h : i < t.size then t[i] == 92 && !fl t s2 i else false) else false

theorem fl_low {t : ByteArray} {s2 i : Nat} (h : i ≤ s2) : fl t s2 i = false := by
  cases i with
  | zero => rfl
  | succ i =>
    unfold fl
    rw [if_neg (by omega)]

theorem sq_drop {t : ByteArray} {i : Nat} (h : i < t.size) : t.data.toList.drop i = t[i] :: t.data.toList.drop (i + 1) := by
  have hl : t.data.toList.length = t.size := by rw [Array.length_toList]; rfl
  rw [List.drop_eq_getElem_cons (by omega)]
  rfl
theorem sq_end {t : ByteArray} {i : Nat} (h : t.size ≤ i) : t.data.toList.drop i = [] := by
  have hl : t.data.toList.length = t.size := by rw [Array.length_toList]; rfl
  exact List.drop_eq_nil_of_le (by omega)
theorem sq_len {t : ByteArray} (i : Nat) : (t.data.toList.drop i).length = t.size - i := by
  have hl : t.data.toList.length = t.size := by rw [Array.length_toList]; rfl
  rw [List.length_drop, hl]

theorem sq_plain {t : ByteArray} {i : Nat} (h : i < t.size) (hc : vch t[i] = 0) (d : Nat) : sq (t.data.toList.drop i) none d = sq (t.data.toList.drop (i + 1)) none d := by
  rw [sq_drop h]
  unfold vch at hc
  split at hc
  · cases hc
  · rename_i h1
    split at hc
    · cases hc
    · rename_i h2
      split at hc
      · cases hc
      · rename_i h3
        conv => lhs; unfold sq
        rw [if_neg h1, if_neg h2, if_neg h3]

theorem vch_str {c : UInt8} (h : vch c = 2) : c = 34 := by
  unfold vch at h
  split at h
  · assumption
  · split at h
    · cases h
    · split at h <;> cases h
theorem vch_cases (c : UInt8) : vch c = 0 ∨ vch c = 1 ∨ vch c = 2 ∨ vch c = 3 := by
  unfold vch
  split
  · simp
  · split
    · simp
    · split <;> simp
theorem sq_open {t : ByteArray} {i : Nat} (h : i < t.size) (hc : vch t[i] = 3) (d : Nat) : sq (t.data.toList.drop i) none d = sq (t.data.toList.drop (i + 1)) none (d + 1) := by
  rw [sq_drop h]
  unfold vch at hc
  split at hc
  · cases hc
  · rename_i h1
    split at hc
    · rename_i h2
      conv => lhs; unfold sq
      rw [if_neg h1, if_pos h2]
    · split at hc <;> cases hc
theorem sq_close {t : ByteArray} {i : Nat} (h : i < t.size) (hc : vch t[i] = 1) (d : Nat) : sq (t.data.toList.drop i) none d = if d ≤ 1 then some (t.size - (i + 1)) else sq (t.data.toList.drop (i + 1)) none (d - 1) := by
  rw [sq_drop h]
  unfold vch at hc
  split at hc
  · cases hc
  · rename_i h1
    split at hc
    · cases hc
    · rename_i h2
      split at hc
      · rename_i h3
        conv => lhs; unfold sq
        rw [if_neg h1, if_neg h2, if_pos h3, sq_len]
      · cases hc
theorem sq_quote {t : ByteArray} {i : Nat} (h : i < t.size) (hc : vch t[i] = 2) (d : Nat) : sq (t.data.toList.drop i) none d = sq (t.data.toList.drop (i + 1)) (some (fl t (i + 1) (i + 1))) d := by
  rw [sq_drop h]
  have h1 := vch_str hc
  conv => lhs; unfold sq
  rw [if_pos h1]
  have : fl t (i + 1) (i + 1) = false := fl_low (Nat.le_refl _)
  rw [this]
/-- In a string, a byte that does not end it. -/
theorem sq_in {t : ByteArray} {s2 i : Nat} (h : i < t.size) (h2 : s2 ≤ i) (hc : t[i] ≠ 34 ∨ fl t s2 i = true) (d : Nat) : sq (t.data.toList.drop i) (some (fl t s2 i)) d = sq (t.data.toList.drop (i + 1)) (some (fl t s2 (i + 1))) d := by
  rw [sq_drop h]
  conv => lhs; unfold sq
  rw [if_neg (by rintro ⟨a, b⟩; rcases hc with hc | hc; exact hc a; rw [b] at hc; cases hc)]
  have : fl t s2 (i + 1) = (t[i] == 92 && !fl t s2 i) := by
    conv => lhs; unfold fl
    rw [if_pos h2, dif_pos h]
  rw [this]
theorem sq_out {t : ByteArray} {s2 i : Nat} (h : i < t.size) (hc : t[i] = 34) (hf : fl t s2 i = false) (d : Nat) : sq (t.data.toList.drop i) (some (fl t s2 i)) d = sq (t.data.toList.drop (i + 1)) none d := by
  rw [sq_drop h]
  conv => lhs; unfold sq
  rw [if_pos ⟨hc, hf⟩]
theorem fl_not {t : ByteArray} {s2 i : Nat} (h : i < t.size) (hc : t[i] ≠ 92) : fl t s2 (i + 1) = false := by
  have h92 : (t[i] == 92) = false := by simpa using hc
  conv => lhs; unfold fl
  by_cases h2 : s2 ≤ i
  · rw [if_pos h2, dif_pos h, h92]
    rfl
  · rw [if_neg h2]
theorem fl_yes {t : ByteArray} {s2 i : Nat} (h : i < t.size) (h2 : s2 ≤ i) (hc : t[i] = 92) : fl t s2 (i + 1) = !fl t s2 i := by
  conv => lhs; unfold fl
  rw [if_pos h2, dif_pos h, hc]
  rfl
/-- The table as parseSquash asks for it. -/
def GLVch (w : World) : Prop := ∀ c : UInt8, w.cell? ⟨3, c.toNat, none⟩ = some (.int .u8 (vch c : Int))
theorem GLVch.keep {w w' : World} (h : GLVch w) (hb : Below w.heap.size w w') : GLVch w' := fun c => by
  have hc := h c
  rw [World.cell?_of_block (w := w) (hb.block 3 (World.block_lt_of_cell? w _ hc))]
  exact hc
end Go.Proofs.YtifcmhekpbfboaaDoor
