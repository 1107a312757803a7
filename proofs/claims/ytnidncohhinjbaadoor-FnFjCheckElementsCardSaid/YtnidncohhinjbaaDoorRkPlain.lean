/- Plain facts on lists of bytes for FnFjRawKey: the first quotation mark ahead of which an even number of backslashes stands. No condition; no program in sight. -/
import Derived.Lib.Bytealg
namespace Go.Proofs.YtnidncohhinjbaaDoor

/-- How many backslashes stand right ahead of place k. -/
def runB (l : List UInt8) : Nat → Nat
  | 0 => 0
  | k + 1 => if l[k]? = some 92 then runB l k + 1 else 0

def closesB (l : List UInt8) (k : Nat) : Bool := l[k]? == some 34 && runB l k % 2 == 0

/-- The first quotation mark ahead of which an even number of backslashes stands. -/
def closeL (l : List UInt8) : Option Nat := (List.range l.length).find? (closesB l)

theorem closeL_some {l : List UInt8} {k : Nat} (hk : k < l.length) (hc : closesB l k = true) (hb : ∀ j, j < k → closesB l j = false) : closeL l = some k := by
  unfold closeL
  rw [List.find?_range_eq_some]
  exact ⟨hc, by simpa using hk, fun j hj => by simp [hb j hj]⟩

theorem closeL_none {l : List UInt8} (hb : ∀ j, j < l.length → closesB l j = false) : closeL l = none := by
  unfold closeL
  rw [List.find?_eq_none]
  intro j hj
  rw [hb j (by simpa using hj)]
  simp

theorem closeL_of {l : List UInt8} {k : Nat} (h : closeL l = some k) : k < l.length ∧ closesB l k = true ∧ ∀ j, j < k → closesB l j = false := by
  unfold closeL at h
  rw [List.find?_range_eq_some] at h
  exact ⟨by simpa using h.2.1, h.1, fun j hj => by simpa using h.2.2 j hj⟩

theorem closeL_of_none {l : List UInt8} (h : closeL l = none) : ∀ j, j < l.length → closesB l j = false := by
  unfold closeL at h
  rw [List.find?_eq_none] at h
  intro j hj
  simpa using h j (by simpa using hj)

theorem closes_not {l : List UInt8} {k : Nat} (h : l[k]? ≠ some 34) : closesB l k = false := by
  unfold closesB
  simp [h]

theorem runB_zero {l : List UInt8} {k : Nat} (h : ∀ j : Nat, j + 1 = k → l[j]? ≠ some 92) : runB l k = 0 := by
  cases k with
  | zero => rfl
  | succ k => unfold runB; rw [if_neg (h k rfl)]

theorem closes_yes {l : List UInt8} {k : Nat} (h : l[k]? = some 34) (hr : runB l k % 2 = 0) : closesB l k = true := by
  unfold closesB
  simp [h, hr]

theorem closes_odd {l : List UInt8} {k : Nat} (hr : runB l k % 2 = 1) : closesB l k = false := by
  unfold closesB
  simp [hr]

/-- A stretch of backslashes that no backslash stands ahead of is the whole run. -/
theorem runB_stretch {l : List UInt8} (i : Nat) (h0 : runB l i = 0) : ∀ d : Nat, (∀ j : Nat, i ≤ j → j < i + d → l[j]? = some 92) → runB l (i + d) = d
  | 0, _ => h0
  | d + 1, h => by
    show runB l (i + d + 1) = d + 1
    unfold runB
    rw [if_pos (h (i + d) (by omega) (by omega)), runB_stretch i h0 d (fun j a b => h j a (by omega))]

theorem index_none {l : List UInt8} {c : UInt8} (h : Lib.indexByte l c = -1) : ∀ j : Nat, l[j]? ≠ some c := by
  induction l with
  | nil => intro j; simp
  | cons b l ih =>
    unfold Lib.indexByte at h
    by_cases hb : (b == c) = true
    · rw [if_pos hb] at h; exact absurd h (by decide)
    · rw [if_neg hb] at h
      have hg := Lib.indexByte_ge l c
      by_cases hi : (Lib.indexByte l c == -1) = true
      · intro j
        cases j with
        | zero => simpa using hb
        | succ j => simpa using ih (by simpa using hi) j
      · rw [if_neg hi] at h
        omega

theorem index_some {l : List UInt8} {c : UInt8} {n : Nat} (h : Lib.indexByte l c = n) : n < l.length ∧ l[n]? = some c ∧ ∀ j : Nat, j < n → l[j]? ≠ some c := by
  induction l generalizing n with
  | nil => exact absurd h (by unfold Lib.indexByte; omega)
  | cons b l ih =>
    unfold Lib.indexByte at h
    by_cases hb : (b == c) = true
    · rw [if_pos hb] at h
      obtain rfl : n = 0 := by omega
      exact ⟨by simp, by simpa using hb, fun j hj => by omega⟩
    · rw [if_neg hb] at h
      have hg := Lib.indexByte_ge l c
      by_cases hi : (Lib.indexByte l c == -1) = true
      · rw [if_pos hi] at h; omega
      · rw [if_neg hi] at h
        obtain ⟨m, hm⟩ : ∃ m : Nat, n = m + 1 := ⟨n - 1, by have : Lib.indexByte l c ≠ -1 := by simpa using hi
                                                            omega⟩
        subst hm
        obtain ⟨a, b', c'⟩ := ih (n := m) (by omega)
        refine ⟨by simpa using a, by simpa using b', fun j hj => ?_⟩
        cases j with
        | zero => simpa using hb
        | succ j => simpa using c' j (by omega)

end Go.Proofs.YtnidncohhinjbaaDoor
