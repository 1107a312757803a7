/- Small laws for the walk of jsonparser's ParsePath: strings.HasPrefix of a text of two bytes, and what the plain reader's parts are bounded by. Condition: the text takes at most 2^47 - 4096 bytes. -/
import Derived.Test.YtnidncohhinjbaaDoorJq7
import Derived.Test.YtnidncohhinjbaaDoorWWords
namespace Go.Proofs.YtnidncohhinjbaaDoor
open Go.RowKit Go.Proofs.YtnidncohhinjbaaDoorW.PrintWords

def GLAll (w : World) : Prop := GLPath w ∧ GLEsc w
theorem GLAll.keep {w w' : World} (h : GLAll w) (hb : Below w.heap.size w w') : GLAll w' := ⟨h.1.keep hb, h.2.keep hb⟩

def PathPost (o : Option (List ByteArray)) (W : World) : Ending → World → Prop := fun e w' => Below W.heap.size W w' ∧
  match o with
  | some l => ∃ v, e = .returned (.tuple #[v, .nilIface]) ∧ Kd.string.R 9 w' W.heap.size (fun _ => True) v l
  | none => ∃ t p, e = .returned (.tuple #[.slice none 0 0, .iface t p])

theorem hp_two (p : ByteArray) (c : UInt8) : (if 2 ≤ p.size then (p.extract 0 2).toList == (⟨#[36, c]⟩ : ByteArray).toList else false) = (if h : 1 < p.size then (decide (p[0]'(by omega) = 36) && decide (p[1] = c)) else false) := by
  by_cases h : 2 ≤ p.size
  · rw [if_pos h, dif_pos (by omega)]
    have e1 : (p.extract 0 2).toList = [p[0]'(by omega), p[1]'(by omega)] := by
      rw [ByteArray.toList_eq]
      apply List.ext_getElem?
      intro k
      have hs : p.data.size = p.size := rfl
      match k with
      | 0 => simp [ByteArray.data_extract, ByteArray.getElem_eq_getElem_data]
      | 1 => simp [ByteArray.data_extract, ByteArray.getElem_eq_getElem_data]
      | k + 2 => simp [ByteArray.data_extract, hs]; omega
    rw [e1]
    have e2 : (⟨#[36, c]⟩ : ByteArray).toList = [36, c] := by
      rw [ByteArray.toList_eq]
    rw [e2]
    simp only [List.cons_beq_cons, List.nil_beq_eq, List.isEmpty_nil, Bool.and_true]
    rfl
  · rw [if_neg h, dif_neg (by omega)]

theorem hp_dec (p : ByteArray) (c : UInt8) (h : 2 ≤ (p.size : Int)) : ((p.extract 0 2).toList == [36, c]) = (decide (p[0]'(by omega) = 36) && decide (p[1]'(by omega) = c)) := by
  have e := hp_two p c
  rw [if_pos (by omega), dif_pos (by omega), ByteArray.toList_eq ⟨#[36, c]⟩] at e
  exact e

theorem way1 (U : ByteArray → Option ByteArray) {p : ByteArray} (h : (p.toList == [36]) = true) : pathF U p = some [] := by
  have h1 : p.toList = [36] := by simpa using h
  rw [ByteArray.toList_eq] at h1
  have hp : p = ⟨#[36]⟩ := by
    apply ByteArray.ext
    rw [← Array.toList_inj]
    exact h1
  subst hp
  rfl
theorem way2 (U : ByteArray → Option ByteArray) {p : ByteArray} (h2 : 2 ≤ (p.size : Int)) (h : ((p.extract 0 2).toList == [36, 46]) = true) : pathF U p = pathBody U (p.extract 2 p.size) := by
  rw [hp_dec p 46 h2] at h
  simp only [Bool.and_eq_true, decide_eq_true_eq] at h
  unfold pathF
  rw [dif_pos (by omega), if_pos h.1, dif_pos (by omega), if_pos h.2]
theorem way3 (U : ByteArray → Option ByteArray) {p : ByteArray} (h2 : 2 ≤ (p.size : Int)) (h : ((p.extract 0 2).toList == [36, 46]) = false) (h' : ((p.extract 0 2).toList == [36, 91]) = true) : pathF U p = pathBody U (p.extract 1 p.size) := by
  rw [hp_dec p 46 h2] at h
  rw [hp_dec p 91 h2] at h'
  simp only [Bool.and_eq_true, decide_eq_true_eq] at h'
  simp only [h'.1, decide_true, Bool.true_and, decide_eq_false_iff_not] at h
  unfold pathF
  rw [dif_pos (by omega), if_pos h'.1, dif_pos (by omega), if_neg h, if_pos h'.2]
theorem way4 (U : ByteArray → Option ByteArray) {p : ByteArray} (h2 : 2 ≤ (p.size : Int)) (h : ((p.extract 0 2).toList == [36, 46]) = false) (h' : ((p.extract 0 2).toList == [36, 91]) = false) (h0 : (((p[0]'(by omega)).toNat : Int) == 36) = true) : pathF U p = none := by
  have e : p[0]'(by omega) = 36 := by
    simp only [beq_iff_eq] at h0
    exact UInt8.toNat_inj.1 (by simpa using (by omega : (p[0]'(by omega)).toNat = 36))
  rw [hp_dec p 46 h2] at h
  rw [hp_dec p 91 h2] at h'
  simp only [e, decide_true, Bool.true_and, decide_eq_false_iff_not] at h h'
  unfold pathF
  rw [dif_pos (by omega), if_pos e, dif_pos (by omega), if_neg h, if_neg h']
theorem way5 (U : ByteArray → Option ByteArray) {p : ByteArray} (hp : 0 < p.size) (h0 : (((p[0]'(by omega)).toNat : Int) == 36) = false) : pathF U p = pathBody U p := by
  have e : ¬ p[0]'(by omega) = 36 := fun e => by rw [e] at h0; exact absurd h0 (by decide)
  unfold pathF
  rw [dif_pos hp, if_neg e]
theorem way6 {p : ByteArray} (hp : 0 < p.size) (h1 : (p.toList == [36]) = false) (h2 : (p.size : Int) < 2) (h0 : (((p[0]'(by omega)).toNat : Int) == 36) = true) : False := by
  have e : p[0]'(by omega) = 36 := by
    simp only [beq_iff_eq] at h0
    exact UInt8.toNat_inj.1 (by simpa using (by omega : (p[0]'(by omega)).toNat = 36))
  have hl : p.toList = [36] := by
    rw [ByteArray.toList_eq]
    have hs : p.data.size = p.size := rfl
    apply List.ext_getElem?
    intro k
    match k with
    | 0 => rw [ByteArray.getElem_eq_getElem_data] at e; simp [hs, hp, e]
    | k + 1 => simp [hs]; omega
  rw [hl] at h1
  exact absurd h1 (by decide)

theorem brF_lt {p : ByteArray} {s : Nat} {c : ByteArray} {n : Nat} (h : brF p s = some (c, n)) : s < n ∧ n ≤ p.size := by
  unfold brF at h
  cases hb : brEnd (p.size + 1) p (s + 1) with
  | none => rw [hb] at h; cases h
  | some e =>
    rw [hb] at h
    simp only at h
    have h1 := brEnd_lt _ _ _ _ hb
    split at h
    · cases h
    · split at h
      · split at h
        · split at h
          · have := (Prod.mk.inj (Option.some.inj h)).2
            omega
          · cases h
        · split at h
          · have := (Prod.mk.inj (Option.some.inj h)).2
            omega
          · cases h
      · cases h

theorem qkL_lt (U : ByteArray → Option ByteArray) : ∀ (k : Nat) (p : ByteArray) (cs i : Nat) (y : ByteArray) (n : Nat), qkL U k p cs i = some (y, n) → i < n ∧ n ≤ p.size
  | 0, _, _, _, _, _, h => by simp [qkL] at h
  | k + 1, p, cs, i, y, n, h => by
    unfold qkL at h
    split at h
    · split at h
      · split at h
        · have := qkL_lt U k _ _ _ _ _ h
          omega
        · cases h
      · split at h
        · split at h
          · split at h
            · have := (Prod.mk.inj (Option.some.inj h)).2
              omega
            · cases h
          · have := (Prod.mk.inj (Option.some.inj h)).2
            omega
        · split at h
          · cases h
          · have := qkL_lt U k _ _ _ _ _ h
            omega
    · cases h
theorem qkF_lt {U : ByteArray → Option ByteArray} {p : ByteArray} {s : Nat} {y : ByteArray} {n : Nat} (h : qkF U p s = some (y, n)) : s < n ∧ n ≤ p.size := by
  have := qkL_lt U _ _ _ _ _ _ h
  omega

theorem keyEnd_le : ∀ (k : Nat) (p : ByteArray) (i e : Nat), i ≤ p.size → keyEnd k p i = some e → i ≤ e ∧ e ≤ p.size
  | 0, _, _, _, _, h => by simp [keyEnd] at h
  | k + 1, p, i, e, hi, h => by
    unfold keyEnd at h
    split at h
    · split at h
      · have := Option.some.inj h; omega
      · split at h
        · have := Option.some.inj h; omega
        · split at h
          · cases h
          · split at h
            · cases h
            · have := keyEnd_le k p (i + 1) e (by omega) h
              omega
    · have := Option.some.inj h; omega

theorem jq_infoS : (Tryd.prog.info? 9).map (fun i => (i.zero, i.size, i.bytes)) = some (some (.string ⟨#[]⟩), 1, 16) := by kernel_rfl

/-- What follows the component: the brackets, the point, the rest. -/
def restP (U : ByteArray → Option ByteArray) (k : Nat) (p : ByteArray) : Option (List ByteArray × Nat) → Option (List ByteArray)
  | none => none
  | some (acc2, i2) => if h2 : i2 < p.size then (if p[i2] = 46 then (if i2 + 1 = p.size then none else pathL U k p (i2 + 1) acc2) else none) else (if acc2 = [] then none else some acc2)
theorem restP_some (U : ByteArray → Option ByteArray) (k : Nat) (p : ByteArray) (acc2 : List ByteArray) (i2 : Nat) : restP U k p (some (acc2, i2)) = (if h2 : i2 < p.size then (if p[i2] = 46 then (if i2 + 1 = p.size then none else pathL U k p (i2 + 1) acc2) else none) else (if acc2 = [] then none else some acc2)) := rfl
/-- The component ahead of the brackets. -/
def firstP (U : ByteArray → Option ByteArray) (p : ByteArray) (i : Nat) (acc : List ByteArray) : Option (List ByteArray × Nat) :=
  if h : i < p.size then
    (if p[i] = 46 then none
        else if p[i] = 34 then (match qkF U p i with | some (y, n) => some (acc ++ [y], n) | none => none)
        else if p[i] = 91 then some (acc, i)
        else (match keyEnd (p.size + 1) p i with | some e => if e = i then none else some (acc ++ [p.extract i e], e) | none => none))
  else none
theorem pathL_step (U : ByteArray → Option ByteArray) (k : Nat) (p : ByteArray) (i : Nat) (acc : List ByteArray) (h : i < p.size) :
    pathL U (k + 1) p i acc = (match firstP U p i acc with | none => none | some (acc1, i1) => restP U k p (brsL (p.size + 1) p i1 acc1)) := by
  conv => lhs; unfold pathL
  rw [dif_pos h]
  simp only
  split
  · rename_i h1
    rw [show firstP U p i acc = none from by unfold firstP; rw [dif_pos h]; exact h1]
  · rename_i a b h1
    rw [show firstP U p i acc = some (a, b) from by unfold firstP; rw [dif_pos h]; exact h1]
    simp only
    cases brsL (p.size + 1) p b a with
    | none => rfl
    | some z => obtain ⟨a2, i2⟩ := z; rfl
theorem pathL_end (U : ByteArray → Option ByteArray) (k : Nat) (p : ByteArray) (i : Nat) (acc : List ByteArray) (h : ¬ i < p.size) : pathL U (k + 1) p i acc = if acc = [] then none else some acc := by
  conv => lhs; unfold pathL
  rw [dif_neg h]
end Go.Proofs.YtnidncohhinjbaaDoor
