/- The pure statement of FnJpParseInt: the inner reader of whole numbers and the law's own go over the same digits step by step and tell the same. No condition beyond the statement's own. -/
import Derived.Test.YtifcmhekpbfboaaDoorMFnJpParseInt1
import Derived.Lib.Hide
namespace Go.Proofs.YtifcmhekpbfboaaDoor.Pure
open Go.RowKit Go.Proofs.YtifcmhekpbfboaaDoor.MFnJpParseInt Go.Proofs.YtifcmhekpbfboaaDoorW.PrintWords Go.Proofs.YtifcmhekpbfboaaDoorW.PrintLast
open Go.Proofs.YtifcmhekpbfboaaDoor.MjsonparserparseInt

theorem pi_wrap {x : Int} (h0 : -9223372036854775808 ≤ x) (h : x ≤ 9223372036854775807) : wrap64 x = x := by unfold wrap64; omega
theorem pi_u64 (n : Int) (h : 0 ≤ n ∧ n ≤ 18446744073709551615) : IntKind.u64.wrap n = n := by
  simp only [IntKind.wrap, IntKind.bits, IntKind.signed]; simp; omega
theorem pi_u64_over (n : Int) (h : 18446744073709551616 ≤ n ∧ n ≤ 36893488147419103231) : IntKind.u64.wrap n = n - 18446744073709551616 := by
  simp only [IntKind.wrap, IntKind.bits, IntKind.signed]; simp; omega
theorem pi_u64_neg (n : Int) (h : 1 ≤ n ∧ n ≤ 18446744073709551615) : IntKind.u64.wrap (-n) = 18446744073709551616 - n := by
  simp only [IntKind.wrap, IntKind.bits, IntKind.signed]; simp; omega

def pw : Nat → Int
  | 0 => 1
  | q + 1 => 10 * pw q
theorem pw_small : ∀ q, q < 18 → pw q ≤ 100000000000000000 := by decide
theorem pw_18 : pw 18 = 1000000000000000000 := by decide
theorem pw_le (q : Nat) (h : q ≤ 18) : pw q ≤ 1000000000000000000 := by
  by_cases e : q = 18
  · subst e; exact Int.le_of_eq pw_18
  · exact Int.le_trans (pw_small q (by omega)) (by decide)

/-- The two loops over at most 18 digits. -/
theorem pi_small (t : ByteArray) (l : List Int) (off : Nat) (neg : Bool) (hl : l.length = t.size + off) (hb : ∀ q : Nat, q < t.size → rd l ((q + off : Nat) : Int) = bt t (q : Int)) (ht : t.size < 19) (hoff : off ≤ 1) :
    ∀ (d k k2 q : Nat) (n : Int), q ≤ t.size → t.size - q = d → d < k → 2 * d < k2 → 0 ≤ n → n < pw q →
    (jsonparser_parseInt.l0 k l n (l.length : Int) neg ((q + off : Nat) : Int) = some (0, false, false) ∧ spec_Uint64.l0 k2 t n (q : Int) = some (0, false)) ∨
    ∃ m : Int, 0 ≤ m ∧ m < 1000000000000000000 ∧ jsonparser_parseInt.l0 k l n (l.length : Int) neg ((q + off : Nat) : Int) = (if neg = true then some (wrap64 (-m), true, false) else some (m, true, false)) ∧ spec_Uint64.l0 k2 t n (q : Int) = some (m, true) := by
  intro d
  induction d with
  | zero =>
    intro k k2 q n h1 hd hk hk2 hn0 hn
    obtain ⟨k, rfl⟩ : ∃ m, k = m + 1 := ⟨k - 1, by omega⟩
    obtain ⟨k2, rfl⟩ : ∃ m, k2 = m + 1 := ⟨k2 - 1, by omega⟩
    right
    refine ⟨n, hn0, ?_, ?_, ?_⟩
    · exact Int.lt_of_lt_of_le hn (pw_le q (by omega))
    · simp only [jsonparser_parseInt.l0]
      rw [if_neg (by omega)]
    · simp only [spec_Uint64.l0]
      rw [if_neg (by omega)]
  | succ d ih =>
    intro k k2 q n h1 hd hk hk2 hn0 hn
    obtain ⟨k, rfl⟩ : ∃ m, k = m + 1 := ⟨k - 1, by omega⟩
    obtain ⟨k2, rfl⟩ : ∃ m, k2 = m + 2 := ⟨k2 - 2, by omega⟩
    have hlt : q < t.size := by omega
    have hc := bt_range t (q : Int)
    have hq : Hid (rd l ((q + off : Nat) : Int) = bt t (q : Int)) := Lib.hid (hb q hlt)
    have h18 : n < 100000000000000000 := Int.lt_of_lt_of_le hn (pw_small q (by omega))
    have w1 : Hid (wrap64 (((q + off : Nat) : Int) + 1) = ((q + 1 + off : Nat) : Int)) := Lib.hid (by rw [pi_wrap (by omega) (by omega)]; omega)
    have w2 : Hid (wrap64 ((q : Int) + 1) = ((q + 1 : Nat) : Int)) := Lib.hid (by rw [pi_wrap (by omega) (by omega)]; omega)
    generalize hcc0 : bt t (q : Int) = c at hq hc
    have hcc := Lib.hid hcc0
    clear hcc0
    by_cases hdig : 48 ≤ c ∧ c ≤ 57
    · have e1 : (c - 48) % 256 = c - 48 := by omega
      have w3 : Hid (wrap64 (10 * n) = 10 * n) := Lib.hid (pi_wrap (by omega) (by omega))
      have w4 : Hid (wrap64 (10 * n + (c - 48)) = 10 * n + (c - 48)) := Lib.hid (pi_wrap (by omega) (by omega))
      have w5 : Hid (IntKind.u64.wrap (n * 10) = n * 10) := Lib.hid (pi_u64 _ (by omega))
      have w6 : Hid (IntKind.u64.wrap (n * 10 + (c - 48)) = 10 * n + (c - 48)) := Lib.hid (by rw [pi_u64 _ (by omega)]; omega)
      have hih := Lib.hid <| ih k k2 (q + 1) (10 * n + (c - 48)) (by omega) (by omega) (by omega) (by omega) (by omega) (by show 10 * n + (c - 48) < 10 * pw q; omega)
      have eL : jsonparser_parseInt.l0 (k + 1) l n (l.length : Int) neg ((q + off : Nat) : Int) = jsonparser_parseInt.l0 k l (10 * n + (c - 48)) (l.length : Int) neg ((q + 1 + off : Nat) : Int) := by
        simp only [jsonparser_parseInt.l0]
        rw [if_pos (by omega), if_pos (by omega), if_pos (by omega), hq.out, e1, if_neg (by omega), w3.out, w4.out, w1.out]
      have eU : spec_Uint64.l0 (k2 + 2) t n (q : Int) = spec_Uint64.l0 k2 t (10 * n + (c - 48)) ((q + 1 : Nat) : Int) := by
        have ej : spec_Uint64.j1 (k2 + 1) t n (q : Int) false = spec_Uint64.l0 k2 t (10 * n + (c - 48)) ((q + 1 : Nat) : Int) := by
          simp only [spec_Uint64.j1]
          rw [if_neg (by simp), if_pos (by omega), if_pos (by omega), hcc.out, e1, if_neg (by omega), w5.out, w6.out, w2.out]
        have eb : decide (c > 57) = false := decide_eq_false (by omega)
        rw [show k2 + 2 = (k2 + 1) + 1 from rfl]
        generalize k2 + 1 = K at ej
        simp only [spec_Uint64.l0]
        rw [if_pos (by omega), if_pos (by omega), hcc.out, if_neg (by omega), eb, ej]
      rw [eL, eU]
      exact hih.out
    · left
      have e1 : (c - 48) % 256 > 9 := by omega
      constructor
      · simp only [jsonparser_parseInt.l0]
        rw [if_pos (by omega), if_pos (by omega), if_pos (by omega), hq.out, if_pos e1]
      · have ej : ∀ b, b = true → spec_Uint64.j1 (k2 + 1) t n (q : Int) b = some (0, false) := fun b hb => by subst hb; simp only [spec_Uint64.j1]; rfl
        rw [show k2 + 2 = (k2 + 1) + 1 from rfl]
        generalize k2 + 1 = K at ej
        simp only [spec_Uint64.l0]
        rw [if_pos (by omega), if_pos (by omega), hcc.out]
        by_cases h48 : c < 48
        · rw [if_pos h48]; exact ej _ rfl
        · rw [if_neg h48]; exact ej _ (decide_eq_true (by omega))

/-- What the inner reader tells of a number that it has read. -/
def piEnd (neg : Bool) (n : Int) : Int × Bool × Bool :=
  if n > 9223372036854775807 then (if neg = true ∧ n = 9223372036854775808 then (-9223372036854775808, true, false) else (0, false, true)) else (if neg = true then (wrap64 (-(wrap64 n)), true, false) else (wrap64 n, true, false))

/-- The two loops over any number of digits. -/
theorem pi_large (t : ByteArray) (l : List Int) (neg : Bool) (hl : l.length = t.size) (hb : ∀ q : Nat, q < t.size → rd l (q : Int) = bt t (q : Int)) (ht : t.size ≤ 140737488351232) :
    ∀ (d k k2 q : Nat) (n : Int), q ≤ t.size → t.size - q = d → 2 * d + 1 < k → 2 * d < k2 → 0 ≤ n → n ≤ 18446744073709551615 →
    (∃ o, jsonparser_parseInt.l1 k neg n l (l.length : Int) (q : Int) = some (0, false, o) ∧ spec_Uint64.l0 k2 t n (q : Int) = some (0, false)) ∨
    ∃ m : Int, 0 ≤ m ∧ m ≤ 18446744073709551615 ∧ jsonparser_parseInt.l1 k neg n l (l.length : Int) (q : Int) = some (piEnd neg m) ∧ spec_Uint64.l0 k2 t n (q : Int) = some (m, true) := by
  intro d
  induction d with
  | zero =>
    intro k k2 q n h1 hd hk hk2 hn0 hn
    obtain ⟨k, rfl⟩ : ∃ m, k = m + 2 := ⟨k - 2, by omega⟩
    obtain ⟨k2, rfl⟩ : ∃ m, k2 = m + 1 := ⟨k2 - 1, by omega⟩
    right
    refine ⟨n, hn0, hn, ?_, ?_⟩
    · have j5 : ∀ b : Bool, jsonparser_parseInt.j5 (k + 1) b = some (if b = true then ((-9223372036854775808), true, false) else (0, false, true)) := fun b => by simp only [jsonparser_parseInt.j5]; cases b <;> rfl
      rw [show k + 2 = (k + 1) + 1 from rfl]
      generalize k + 1 = K at j5
      simp only [jsonparser_parseInt.l1]
      rw [if_neg (by omega)]
      unfold piEnd
      by_cases hb : n > 9223372036854775807
      · rw [if_pos hb, if_pos hb]
        cases neg with
        | true =>
          rw [if_pos rfl, j5]
          by_cases e : n = 9223372036854775808
          · simp [e]
          · simp [e]
        | false => rw [if_neg (by simp), j5]; simp
      · rw [if_neg hb, if_neg hb]
        cases neg <;> rfl
    · simp only [spec_Uint64.l0]
      rw [if_neg (by omega)]
  | succ d ih =>
    intro k k2 q n h1 hd hk hk2 hn0 hn
    obtain ⟨k, rfl⟩ : ∃ m, k = m + 2 := ⟨k - 2, by omega⟩
    obtain ⟨k2, rfl⟩ : ∃ m, k2 = m + 2 := ⟨k2 - 2, by omega⟩
    have hlt : q < t.size := by omega
    have hc := bt_range t (q : Int)
    have hq : Hid (rd l (q : Int) = bt t (q : Int)) := Lib.hid (hb q hlt)
    have w2 : Hid (wrap64 ((q : Int) + 1) = ((q + 1 : Nat) : Int)) := Lib.hid (by rw [pi_wrap (by omega) (by omega)]; omega)
    generalize hcc0 : bt t (q : Int) = c at hq hc
    have hcc := Lib.hid hcc0
    clear hcc0
    have nL : ∀ b, jsonparser_parseInt.l1 (k + 2) neg n l (l.length : Int) (q : Int) = (if c < 48 then (jsonparser_parseInt.j4 (k + 1) neg n c l (l.length : Int) (q : Int) true) else (jsonparser_parseInt.j4 (k + 1) neg n c l (l.length : Int) (q : Int) (decide (c > 57)))) ∨ b = true := fun b => by
      left
      rw [show k + 2 = (k + 1) + 1 from rfl]
      generalize k + 1 = K
      simp only [jsonparser_parseInt.l1]
      rw [if_pos (by omega), if_pos (by omega), if_pos (by omega), hq.out]
    have nL := (nL false).resolve_right (by simp)
    have nU : spec_Uint64.l0 (k2 + 2) t n (q : Int) = (if c < 48 then (spec_Uint64.j1 (k2 + 1) t n (q : Int) true) else (spec_Uint64.j1 (k2 + 1) t n (q : Int) (decide (c > 57)))) := by
      rw [show k2 + 2 = (k2 + 1) + 1 from rfl]
      generalize k2 + 1 = K
      simp only [spec_Uint64.l0]
      rw [if_pos (by omega), if_pos (by omega), hcc.out]
    rw [nL, nU]
    by_cases hdig : 48 ≤ c ∧ c ≤ 57
    · have e1 : (c - 48) % 256 = c - 48 := by omega
      have eb : decide (c > 57) = false := decide_eq_false (by omega)
      rw [if_neg (by omega), if_neg (by omega), eb]
      by_cases hov : 10 * n + (c - 48) ≤ 18446744073709551615
      · have w5 : Hid (IntKind.u64.wrap (n * 10) = n * 10) := Lib.hid (pi_u64 _ (by omega))
        have w6 : Hid (IntKind.u64.wrap (n * 10 + (c - 48)) = 10 * n + (c - 48)) := Lib.hid (by rw [pi_u64 _ (by omega)]; omega)
        have eJ : jsonparser_parseInt.j4 (k + 1) neg n c l (l.length : Int) (q : Int) false = jsonparser_parseInt.l1 k neg (10 * n + (c - 48)) l (l.length : Int) ((q + 1 : Nat) : Int) := by
          simp only [jsonparser_parseInt.j4]
          rw [if_neg (by simp), if_neg (by omega), e1, w5.out, w6.out, if_neg (by omega), w2.out]
        have eU : spec_Uint64.j1 (k2 + 1) t n (q : Int) false = spec_Uint64.l0 k2 t (10 * n + (c - 48)) ((q + 1 : Nat) : Int) := by
          simp only [spec_Uint64.j1]
          rw [if_neg (by simp), if_pos (by omega), if_pos (by omega), hcc.out, e1, if_neg (by omega), w5.out, w6.out, w2.out]
        rw [eJ, eU]
        exact ih k k2 (q + 1) (10 * n + (c - 48)) (by omega) (by omega) (by omega) (by omega) (by omega) (by omega)
      · left
        refine ⟨true, ?_, ?_⟩
        · simp only [jsonparser_parseInt.j4]
          rw [if_neg (by simp)]
          by_cases hbig : n > 1844674407370955161
          · rw [if_pos hbig]
          · have w5 : Hid (IntKind.u64.wrap (n * 10) = n * 10) := Lib.hid (pi_u64 _ (by omega))
            have w6 : Hid (IntKind.u64.wrap (n * 10 + (c - 48)) = n * 10 + (c - 48) - 18446744073709551616) := Lib.hid (pi_u64_over _ (by omega))
            rw [if_neg hbig, e1, w5.out, w6.out, if_pos (by omega)]
        · simp only [spec_Uint64.j1]
          rw [if_neg (by simp), if_pos (by omega), if_pos (by omega), hcc.out, e1, if_pos (by omega)]
    · left
      refine ⟨false, ?_, ?_⟩
      · have ej : ∀ b, b = true → jsonparser_parseInt.j4 (k + 1) neg n c l (l.length : Int) (q : Int) b = some (0, false, false) := fun b hb => by subst hb; simp only [jsonparser_parseInt.j4]; rfl
        by_cases h48 : c < 48
        · rw [if_pos h48]; exact ej _ rfl
        · rw [if_neg h48]; exact ej _ (decide_eq_true (by omega))
      · have ej : ∀ b, b = true → spec_Uint64.j1 (k2 + 1) t n (q : Int) b = some (0, false) := fun b hb => by subst hb; simp only [spec_Uint64.j1]; rfl
        by_cases h48 : c < 48
        · rw [if_pos h48]; exact ej _ rfl
        · rw [if_neg h48]; exact ej _ (decide_eq_true (by omega))

/-- What the law's own reader tells of a number that it has read. -/
def siEnd (neg : Bool) (m : Int) : Int × Bool :=
  if neg = true then (if m ≤ 9223372036854775808 then (wrap64 (IntKind.u64.wrap (-m)), true) else (0, false)) else (if m < 9223372036854775808 then (wrap64 m, true) else (0, false))

theorem si_j1 (k : Nat) (t : ByteArray) (neg : Bool) (m : Int) (b : Bool) (h : spec_Uint64.f (k + 1) t = some (m, b)) : spec_Int64.j1 (k + 2) t neg = some (if b = true then siEnd neg m else (0, false)) := by
  have j2 : ∀ c : Bool, spec_Int64.j2 (k + 1) neg m c = some (if c = true then (wrap64 (IntKind.u64.wrap (-m)), true) else if neg = true then (0, false) else if m < 9223372036854775808 then (wrap64 m, true) else (0, false)) := fun c => by
    simp only [spec_Int64.j2]
    cases c <;> cases neg <;> simp
    split <;> rfl
  rw [show k + 2 = (k + 1) + 1 from rfl]
  generalize k + 1 = K at h j2
  simp only [spec_Int64.j1]
  rw [h]
  simp only [Option.bind_some]
  unfold siEnd
  cases b with
  | false => rfl
  | true =>
    rw [if_pos rfl, if_pos rfl]
    cases neg with
    | true =>
      rw [if_pos rfl, if_pos rfl, j2]
      by_cases hm : m ≤ 9223372036854775808
      · rw [decide_eq_true hm, if_pos hm]; rfl
      · rw [decide_eq_false hm, if_neg hm]; rfl
    | false => rw [if_neg (by simp), if_neg (by simp), j2]; rfl

def okOf (p : Int × Bool × Bool) : Int × Bool := if p.2.1 = true then (p.1, true) else (0, false)
def Agree (x y : Int × Bool) : Prop := (if (x.2 == y.2) = true then (if x.2 = true then some (x.1 == y.1) else some true) else some false) = some true

theorem agree_no (o : Bool) : Agree (okOf (0, false, o)) (0, false) := rfl
theorem neg_eq {m : Int} (h0 : 0 ≤ m) (h : m ≤ 9223372036854775808) : wrap64 (IntKind.u64.wrap (-m)) = -m := by
  by_cases e : m = 0
  · subst e; rw [show (-0 : Int) = 0 from rfl, pi_u64 0 (by omega)]; unfold wrap64; omega
  · rw [pi_u64_neg m (by omega)]; unfold wrap64; omega
theorem agree_eq {x y : Int × Bool} (h : x = y) : Agree x y := by
  subst h
  unfold Agree
  cases x with
  | mk a b => cases b <;> simp
theorem si_neg {m : Int} (h0 : 0 ≤ m) (h : m ≤ 9223372036854775808) : siEnd true m = (-m, true) := by
  have e := neg_eq h0 h
  unfold siEnd
  rw [if_pos rfl, if_pos h, e]
theorem si_neg_no {m : Int} (h : ¬ m ≤ 9223372036854775808) : siEnd true m = (0, false) := by
  unfold siEnd
  rw [if_pos rfl, if_neg h]
theorem si_pos {m : Int} (h0 : 0 ≤ m) (h : m < 9223372036854775808) : siEnd false m = (m, true) := by
  have e : wrap64 m = m := pi_wrap (by omega) (by omega)
  unfold siEnd
  rw [if_neg (by simp), if_pos h, e]
theorem si_pos_no {m : Int} (h : ¬ m < 9223372036854775808) : siEnd false m = (0, false) := by
  unfold siEnd
  rw [if_neg (by simp), if_neg h]
theorem agree_small (neg : Bool) (m : Int) (h0 : 0 ≤ m) (h : m < 1000000000000000000) : Agree (okOf (if neg = true then (wrap64 (-m), true, false) else (m, true, false))) (siEnd neg m) := by
  cases neg with
  | true =>
    rw [si_neg h0 (by omega)]
    have e1 : wrap64 (-m) = -m := pi_wrap (by omega) (by omega)
    rw [if_pos rfl, e1]
    exact agree_eq rfl
  | false =>
    rw [si_pos h0 (by omega), if_neg (by simp)]
    exact agree_eq rfl
theorem agree_large (neg : Bool) (m : Int) (h0 : 0 ≤ m) : Agree (okOf (piEnd neg m)) (siEnd neg m) := by
  by_cases hb : m > 9223372036854775807
  · unfold piEnd
    rw [if_pos hb]
    cases neg with
    | true =>
      by_cases e : m = 9223372036854775808
      · rw [si_neg h0 (by omega), if_pos ⟨rfl, e⟩, e]
        exact agree_eq rfl
      · rw [si_neg_no (by omega), if_neg (by simp [e])]
        exact agree_eq rfl
    | false =>
      rw [si_pos_no (by omega), if_neg (by simp)]
      exact agree_eq rfl
  · unfold piEnd
    rw [if_neg hb]
    cases neg with
    | true =>
      rw [si_neg h0 (by omega)]
      have e1 : wrap64 m = m := pi_wrap (by omega) (by omega)
      have e2 : wrap64 (-m) = -m := pi_wrap (by omega) (by omega)
      rw [if_pos rfl, e1, e2]
      exact agree_eq rfl
    | false =>
      rw [si_pos h0 (by omega)]
      have e1 : wrap64 m = m := pi_wrap (by omega) (by omega)
      rw [if_neg (by simp), e1]
      exact agree_eq rfl

theorem pi_nil {t : ByteArray} : t.toList = ([] : List UInt8) ↔ t.size = 0 := by
  rw [Go.ByteArray.toList_eq]
  constructor
  · intro h
    have := congrArg List.length h
    rw [Array.length_toList] at this
    exact this
  · intro h; exact List.eq_nil_of_length_eq_zero (by rw [Array.length_toList]; exact h)

/-- Both readers behind the sign. -/
theorem pi_both (l : List Int) (t : ByteArray) (off : Nat) (neg : Bool) (hneg : neg = decide (off = 1)) (hl : l.length = t.size + off) (hb : ∀ q : Nat, q < t.size → rd l ((q + off : Nat) : Int) = bt t (q : Int)) (ht : t.size ≤ 140737488351232) (hoff : off ≤ 1) (K : Nat) (hK : 2 * t.size + 10 ≤ K) :
    ∃ p m b, jsonparser_parseInt.j0 K l 0 (l.length : Int) neg (off : Int) = some p ∧ spec_Uint64.f (K + 1) t = some (m, b) ∧ Agree (okOf p) (if b = true then siEnd neg m else (0, false)) := by
  obtain ⟨K, rfl⟩ : ∃ m, K = m + 2 := ⟨K - 2, by omega⟩
  by_cases h0 : t.size = 0
  · refine ⟨(0, false, false), 0, false, ?_, ?_, agree_no _⟩
    · simp only [jsonparser_parseInt.j0]
      rw [if_pos (by omega)]
    · unfold spec_Uint64.f
      rw [if_pos (pi_nil.2 h0)]
  · have hU : spec_Uint64.f (K + 2 + 1) t = spec_Uint64.l0 (K + 2 + 1) t 0 0 := by
      unfold spec_Uint64.f
      rw [if_neg fun h => h0 (pi_nil.1 h)]
    by_cases h19 : t.size < 19
    · have hs := pi_small t l off neg hl hb h19 hoff t.size (K + 1) (K + 2 + 1) 0 0 (by omega) (by omega) (by omega) (by omega) (by omega) (by decide)
      have hj : jsonparser_parseInt.j0 (K + 2) l 0 (l.length : Int) neg (off : Int) = jsonparser_parseInt.l0 (K + 1) l 0 (l.length : Int) neg ((0 + off : Nat) : Int) := by
        rw [show K + 2 = (K + 1) + 1 from rfl]
        generalize K + 1 = K1
        have w : wrap64 ((l.length : Int) - (off : Int)) = (t.size : Int) := by rw [pi_wrap (by omega) (by omega)]; omega
        simp only [jsonparser_parseInt.j0]
        rw [if_neg (by omega), w, if_pos (by omega), Nat.zero_add]
      rcases hs with ⟨h1, h2⟩ | ⟨m, m0, m1, h1, h2⟩
      · exact ⟨_, 0, false, hj.trans h1, hU.trans h2, agree_no _⟩
      · refine ⟨if neg = true then (wrap64 (-m), true, false) else (m, true, false), m, true, ?_, hU.trans h2, ?_⟩
        · rw [hj, h1]; cases neg <;> rfl
        · rw [if_pos rfl]; exact agree_small neg m m0 m1
    · have hlen : (l.drop off).length = t.size := by rw [List.length_drop]; omega
      have hb2 : ∀ q : Nat, q < t.size → rd (l.drop off) (q : Int) = bt t (q : Int) := fun q hq => by
        rw [← hb q hq]
        unfold rd
        simp only [Int.toNat_natCast, List.getD_eq_getElem?_getD, List.getElem?_drop]
        rw [Nat.add_comm]
      have hs := pi_large t (l.drop off) neg hlen hb2 ht t.size K (K + 2 + 1) 0 0 (by omega) (by omega) (by omega) (by omega) (by omega) (by omega)
      have hj2 : jsonparser_parseInt.j2 (K + 1) (l.drop off) neg = jsonparser_parseInt.l1 K neg 0 (l.drop off) ((l.drop off).length : Int) 0 := by simp only [jsonparser_parseInt.j2]
      have hj : jsonparser_parseInt.j0 (K + 2) l 0 (l.length : Int) neg (off : Int) = jsonparser_parseInt.l1 K neg 0 (l.drop off) ((l.drop off).length : Int) 0 := by
        rw [show K + 2 = (K + 1) + 1 from rfl]
        generalize K + 1 = K1 at hj2
        have w : wrap64 ((l.length : Int) - (off : Int)) = (t.size : Int) := by rw [pi_wrap (by omega) (by omega)]; omega
        simp only [jsonparser_parseInt.j0]
        rw [if_neg (by omega), w, if_neg (by omega)]
        by_cases ho : off = 1
        · subst ho
          rw [hneg] at hj2 ⊢
          rw [if_pos (by decide), if_pos (by omega)]
          exact hj2
        · obtain rfl : off = 0 := by omega
          rw [hneg] at hj2 ⊢
          rw [if_neg (by decide)]
          exact hj2
      rcases hs with ⟨o, h1, h2⟩ | ⟨m, m0, m1, h1, h2⟩
      · exact ⟨_, 0, false, hj.trans h1, hU.trans h2, agree_no _⟩
      · exact ⟨_, m, true, hj.trans h1, hU.trans h2, by rw [if_pos rfl]; exact agree_large neg m m0⟩

theorem FnJpParseInt : laws_FnJpParseInt.Pure := by
  intro s hs
  by_cases hbig : (s.size : Int) > 2147483647
  · refine ⟨0, ?_⟩
    unfold laws_FnJpParseInt.f
    rw [if_pos hbig]
  · have key : ∃ p i, jsonparser_parseInt.f (2 * s.size + 14) (bytesOf s) = some p ∧ spec_Int64.f (2 * s.size + 14) s = some i ∧ Agree (okOf p) i := by
      have hl := bytesOf_length s
      unfold jsonparser_parseInt.f spec_Int64.f
      by_cases h0 : s.size = 0
      · refine ⟨(0, false, false), (0, false), ?_, ?_, agree_no _⟩
        · rw [if_pos (by omega)]
        · rw [if_pos (pi_nil.2 h0)]
          have hu : spec_Uint64.f (2 * s.size + 12) s = some (0, false) := by
            unfold spec_Uint64.f
            rw [if_pos (pi_nil.2 h0)]
          have := si_j1 (2 * s.size + 11) s false 0 false hu
          rw [show 2 * s.size + 14 = (2 * s.size + 13) + 1 from rfl]
          rw [show 2 * s.size + 11 + 2 = 2 * s.size + 13 from rfl] at this
          generalize 2 * s.size + 13 = K at this
          simp only [spec_Int64.j0]
          exact this
      · rw [if_neg (show ¬ ((bytesOf s).length : Int) = 0 by omega), if_pos (show (0 : Int) < ((bytesOf s).length : Int) by omega), if_neg fun h => h0 (pi_nil.1 h), if_pos (show (0 : Int) < (s.size : Int) by omega)]
        have h00 : rd (bytesOf s) 0 = bt s 0 := rd_bytesOf s 0
        rw [h00]
        by_cases hm : bt s 0 = 45
        · rw [if_pos hm]
          have hz : (s.extract 1 s.size).size = s.size - 1 := by rw [ByteArray.size_extract]; omega
          have hbt : ∀ q : Nat, q < (s.extract 1 s.size).size → rd (bytesOf s) ((q + 1 : Nat) : Int) = bt (s.extract 1 s.size) (q : Int) := fun q hq => by
            rw [rd_bytesOf]
            unfold bt
            rw [dif_pos (by simp; omega), dif_pos (by simpa using hq)]
            congr 2
            rw [ByteArray.getElem_extract]
            congr 1
            simp; omega
          obtain ⟨p, m, b, h1, h2, h3⟩ := pi_both (bytesOf s) (s.extract 1 s.size) 1 true (by simp) (by omega) hbt (by omega) (by omega) (2 * s.size + 14) (by omega)
          refine ⟨p, _, h1, ?_, h3⟩
          have h2' : spec_Uint64.f (2 * s.size + 12) (s.extract 1 s.size) = some (m, b) := by
            obtain ⟨p', m', b', g1, g2, g3⟩ := pi_both (bytesOf s) (s.extract 1 s.size) 1 true (by simp) (by omega) hbt (by omega) (by omega) (2 * s.size + 11) (by omega)
            have := at_rounds (spec_Uint64.mono (s.extract 1 s.size)) (k := 2 * s.size + 11 + 1) (k' := 2 * s.size + 14 + 1) (by omega) g2
            rw [h2] at this
            rw [g2]
            exact this.symm
          have hj := si_j1 (2 * s.size + 11) (s.extract 1 s.size) true m b h2'
          rw [show 2 * s.size + 11 + 2 = 2 * s.size + 13 from rfl] at hj
          rw [show 2 * s.size + 14 = (2 * s.size + 13) + 1 from rfl, hm]
          generalize 2 * s.size + 13 = K at hj
          simp only [spec_Int64.j0]
          rw [if_pos (by rfl), if_pos (by omega)]
          exact hj
        · rw [if_neg hm]
          have hbt : ∀ q : Nat, q < s.size → rd (bytesOf s) ((q + 0 : Nat) : Int) = bt s (q : Int) := fun q hq => rd_bytesOf s _
          obtain ⟨p, m, b, h1, h2, h3⟩ := pi_both (bytesOf s) s 0 false (by simp) (by omega) hbt (by omega) (by omega) (2 * s.size + 14) (by omega)
          refine ⟨p, _, h1, ?_, h3⟩
          have h2' : spec_Uint64.f (2 * s.size + 12) s = some (m, b) := by
            obtain ⟨p', m', b', g1, g2, g3⟩ := pi_both (bytesOf s) s 0 false (by simp) (by omega) hbt (by omega) (by omega) (2 * s.size + 11) (by omega)
            have := at_rounds (spec_Uint64.mono s) (k := 2 * s.size + 11 + 1) (k' := 2 * s.size + 14 + 1) (by omega) g2
            rw [h2] at this
            rw [g2]
            exact this.symm
          have hj := si_j1 (2 * s.size + 11) s false m b h2'
          have eb : (bt s 0 == 45) = false := by simp only [beq_eq_false_iff_ne]; exact hm
          rw [show 2 * s.size + 11 + 2 = 2 * s.size + 13 from rfl] at hj
          rw [show 2 * s.size + 14 = (2 * s.size + 13) + 1 from rfl, eb]
          generalize 2 * s.size + 13 = K at hj
          simp only [spec_Int64.j0]
          exact hj
    obtain ⟨p, i, h1, h2, h3⟩ := key
    refine ⟨2 * s.size + 14, ?_⟩
    have himp : impl_JpParseInt.f (2 * s.size + 14) s = some (okOf p) := by
      unfold impl_JpParseInt.f
      rw [if_pos hs, h1]
      rfl
    unfold laws_FnJpParseInt.f
    rw [if_neg hbig, himp, h2]
    simp only [Option.bind_some]
    exact h3

end Go.Proofs.YtifcmhekpbfboaaDoor.Pure
