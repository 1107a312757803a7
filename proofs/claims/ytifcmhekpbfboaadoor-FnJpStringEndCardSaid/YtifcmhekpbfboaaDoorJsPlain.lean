/- Plain facts on lists of bytes for jsonparser's search for a string's end: runs of backslashes, and the eight bytes at once. No condition; no program in sight. -/
import Derived.Lib.Bytealg
import Derived.Lib.Hide
import Derived.Laws.BitsLemmas
import Derived.Lib.Endian
namespace Go.Proofs.YtifcmhekpbfboaaDoor

/-- How many backslashes stand right ahead of place k. -/
def runQ (l : List UInt8) : Nat → Nat
  | 0 => 0
  | k + 1 => if l[k]? = some 92 then runQ l k + 1 else 0

/-- At k stands the quotation mark q, and an even number of backslashes ahead of it. -/
def closesQ (q : UInt8) (l : List UInt8) (k : Nat) : Bool := l[k]? == some q && runQ l k % 2 == 0
def closeQ (q : UInt8) (l : List UInt8) : Option Nat := (List.range l.length).find? (closesQ q l)
/-- Does a backslash stand ahead of place k? -/
def escQ (l : List UInt8) (k : Nat) : Bool := (l.take k).contains 92

theorem closeQ_some {q : UInt8} {l : List UInt8} {k : Nat} (hk : k < l.length) (hc : closesQ q l k = true) (hb : ∀ j, j < k → closesQ q l j = false) : closeQ q l = some k := by
  unfold closeQ
  rw [List.find?_range_eq_some]
  exact ⟨hc, by simpa using hk, fun j hj => by simp [hb j hj]⟩
theorem closeQ_none {q : UInt8} {l : List UInt8} (hb : ∀ j, j < l.length → closesQ q l j = false) : closeQ q l = none := by
  unfold closeQ
  rw [List.find?_eq_none]
  intro j hj
  rw [hb j (by simpa using hj)]
  simp
theorem closeQ_of {q : UInt8} {l : List UInt8} {k : Nat} (h : closeQ q l = some k) : k < l.length ∧ closesQ q l k = true ∧ ∀ j, j < k → closesQ q l j = false := by
  unfold closeQ at h
  rw [List.find?_range_eq_some] at h
  exact ⟨by simpa using h.2.1, h.1, fun j hj => by simpa using h.2.2 j hj⟩
theorem closeQ_of_none {q : UInt8} {l : List UInt8} (h : closeQ q l = none) : ∀ j, j < l.length → closesQ q l j = false := by
  unfold closeQ at h
  rw [List.find?_eq_none] at h
  intro j hj
  simpa using h j (by simpa using hj)
theorem closesQ_not {q : UInt8} {l : List UInt8} {k : Nat} (h : l[k]? ≠ some q) : closesQ q l k = false := by
  unfold closesQ
  simp [h]
theorem closesQ_yes {q : UInt8} {l : List UInt8} {k : Nat} (h : l[k]? = some q) (hr : runQ l k % 2 = 0) : closesQ q l k = true := by
  unfold closesQ
  simp [h, hr]
theorem closesQ_odd {q : UInt8} {l : List UInt8} {k : Nat} (hr : runQ l k % 2 = 1) : closesQ q l k = false := by
  unfold closesQ
  simp [hr]
theorem runQ_le (l : List UInt8) : ∀ k, runQ l k ≤ k
  | 0 => Nat.le_refl _
  | k + 1 => by unfold runQ; split; have := runQ_le l k; omega; omega
/-- Within a run backslashes stand. -/
theorem runQ_in (l : List UInt8) : ∀ (k t : Nat), t < runQ l k → l[k - 1 - t]? = some 92
  | 0, t, h => absurd h (by simp [runQ])
  | k + 1, t, h => by
    unfold runQ at h
    split at h
    · rename_i h92
      cases t with
      | zero => simpa using h92
      | succ t =>
        have := runQ_in l k t (by omega)
        rw [show k + 1 - 1 - (t + 1) = k - 1 - t by omega]
        exact this
    · omega
/-- Ahead of a run none stands. -/
theorem runQ_end (l : List UInt8) : ∀ k, runQ l k < k → l[k - 1 - runQ l k]? ≠ some 92
  | 0, h => absurd h (by omega)
  | k + 1, h => by
    by_cases h92 : l[k]? = some 92
    · have e : runQ l (k + 1) = runQ l k + 1 := by rw [runQ, if_pos h92]
      rw [e] at h ⊢
      have := runQ_end l k (by omega)
      rw [show k + 1 - 1 - (runQ l k + 1) = k - 1 - runQ l k by omega]
      exact this
    · have e : runQ l (k + 1) = 0 := by rw [runQ, if_neg h92]
      rw [e]
      simpa using h92
theorem escQ_zero (l : List UInt8) : escQ l 0 = false := by simp [escQ]
theorem escQ_succ {l : List UInt8} {k : Nat} {c : UInt8} (h : l[k]? = some c) : escQ l (k + 1) = (escQ l k || c == 92) := by
  unfold escQ
  rw [List.take_add_one, h]
  simp [List.contains_eq_mem]
  rw [Bool.eq_iff_iff]
  simp
  constructor
  · rintro (h | h)
    · exact Or.inl h
    · exact Or.inr h.symm
  · rintro (h | h)
    · exact Or.inl h
    · exact Or.inr h.symm
theorem escQ_run {l : List UInt8} {k : Nat} (h : escQ l k = false) : runQ l k = 0 := by
  cases k with
  | zero => rfl
  | succ k =>
    unfold runQ
    split
    · rename_i h92
      rw [escQ_succ h92] at h
      simp at h
    · rfl
theorem escQ_none {l : List UInt8} {k : Nat} (h : ∀ j : Nat, j < k → l[j]? ≠ some 92) : escQ l k = false := by
  unfold escQ
  rw [List.contains_eq_mem]
  simp only [decide_eq_false_iff_not]
  intro hm
  obtain ⟨j, hj, e⟩ := List.mem_take_iff_getElem.1 hm
  exact h j (by omega) (by rw [List.getElem?_eq_getElem (by omega), e])


/-! ### Eight bytes at once -/
theorem wraps_u64 (n : Int) (h₀ : 0 ≤ n) (h₁ : n < 2 ^ 64) : IntKind.u64.wrap n = n := by
  simp only [IntKind.wrap, IntKind.bits, IntKind.signed]
  simp
  omega
theorem bits_xor (a b : Nat) (ha : a < 2 ^ 64) (hb : b < 2 ^ 64) : bits .xor .u64 a b = ((a ^^^ b : Nat) : Int) := by
  have ha' : a % 2 ^ IntKind.u64.bits = a := Nat.mod_eq_of_lt ha
  have hb' : b % 2 ^ IntKind.u64.bits = b := Nat.mod_eq_of_lt hb
  simp only [bits, BitVec.ofInt_natCast, BitVec.toNat_xor, BitVec.toNat_ofNat, ha', hb']
  exact wraps_u64 _ (Int.natCast_nonneg _) (by exact_mod_cast Nat.xor_lt_two_pow ha hb)
theorem bits_and (a b : Nat) (ha : a < 2 ^ 64) (hb : b < 2 ^ 64) : bits .and .u64 a b = ((a &&& b : Nat) : Int) := (bits_nat .u64 64 (by decide) wraps_u64 a b ha hb).1
theorem bits_or (a b : Nat) (ha : a < 2 ^ 64) (hb : b < 2 ^ 64) : bits .or .u64 a b = ((a ||| b : Nat) : Int) := (bits_nat .u64 64 (by decide) wraps_u64 a b ha hb).2

/-- A bit that stands in three words. -/
theorem bit_in {a b c : Nat} (i : Nat) (h : a &&& b &&& c = 0) (ha : a / 2 ^ i % 2 = 1) (hb : b / 2 ^ i % 2 = 1) (hc : c / 2 ^ i % 2 = 1) : False := by
  have : (a &&& b &&& c).testBit i = false := by rw [h]; simp
  rw [Nat.testBit_and, Nat.testBit_and, Nat.testBit_eq_decide_div_mod_eq, Nat.testBit_eq_decide_div_mod_eq, Nat.testBit_eq_decide_div_mod_eq, ha, hb, hc] at this
  simp at this

theorem zero_byte (x : Nat) (hx : x < 18446744073709551616) (h : ((x + 18446744073709551616 - 72340172838076673) % 18446744073709551616 &&& (18446744073709551615 - x)) &&& 9259542123273814144 = 0) :
    ∀ k, k < 8 → x / 256 ^ k % 256 ≠ 0 := by
  have n0 : x / 1 % 256 ≠ 0 := fun z => by
    exact bit_in 7 h (by simp only [Nat.reducePow]; omega) (by simp only [Nat.reducePow]; omega) (by decide)
  have g0 : 1 ≤ x % 256 := by omega
  have n1 : x / 256 % 256 ≠ 0 := fun z => by
    exact bit_in 15 h (by simp only [Nat.reducePow]; omega) (by simp only [Nat.reducePow]; omega) (by decide)
  have g1 : 257 ≤ x % 65536 := by omega
  have n2 : x / 65536 % 256 ≠ 0 := fun z => by
    exact bit_in 23 h (by simp only [Nat.reducePow]; omega) (by simp only [Nat.reducePow]; omega) (by decide)
  have g2 : 65793 ≤ x % 16777216 := by omega
  have n3 : x / 16777216 % 256 ≠ 0 := fun z => by
    exact bit_in 31 h (by simp only [Nat.reducePow]; omega) (by simp only [Nat.reducePow]; omega) (by decide)
  have g3 : 16843009 ≤ x % 4294967296 := by omega
  have n4 : x / 4294967296 % 256 ≠ 0 := fun z => by
    exact bit_in 39 h (by simp only [Nat.reducePow]; omega) (by simp only [Nat.reducePow]; omega) (by decide)
  have g4 : 4311810305 ≤ x % 1099511627776 := by omega
  have n5 : x / 1099511627776 % 256 ≠ 0 := fun z => by
    exact bit_in 47 h (by simp only [Nat.reducePow]; omega) (by simp only [Nat.reducePow]; omega) (by decide)
  have g5 : 1103823438081 ≤ x % 281474976710656 := by omega
  have n6 : x / 281474976710656 % 256 ≠ 0 := fun z => by
    exact bit_in 55 h (by simp only [Nat.reducePow]; omega) (by simp only [Nat.reducePow]; omega) (by decide)
  have g6 : 282578800148737 ≤ x % 72057594037927936 := by omega
  have n7 : x / 72057594037927936 % 256 ≠ 0 := fun z => by
    exact bit_in 63 h (by simp only [Nat.reducePow]; omega) (by simp only [Nat.reducePow]; omega) (by decide)
  have g7 : 72340172838076673 ≤ x % 18446744073709551616 := by omega
  intro k hk
  match k, hk with
  | 0, _ => simpa using n0
  | 1, _ => simpa using n1
  | 2, _ => simpa using n2
  | 3, _ => simpa using n3
  | 4, _ => simpa using n4
  | 5, _ => simpa using n5
  | 6, _ => simpa using n6
  | 7, _ => simpa using n7
  | k + 8, hk => omega

theorem xor_byte (m c : Nat) (k : Nat) : (m ^^^ c) / 256 ^ k % 256 = (m / 256 ^ k % 256) ^^^ (c / 256 ^ k % 256) := by
  have e : (256 : Nat) ^ k = 2 ^ (8 * k) := by rw [Nat.pow_mul]
  rw [e, Nat.xor_div_two_pow, show (256 : Nat) = 2 ^ 8 from rfl, Nat.xor_mod_two_pow]

theorem spread_all : ∀ (q : Fin 256) (k : Fin 8), q.val * 72340172838076673 / 256 ^ k.val % 256 = q.val := by decide +kernel
theorem spread_byte (q : Nat) (hq : q < 256) (k : Nat) (hk : k < 8) : q * 72340172838076673 / 256 ^ k % 256 = q := spread_all ⟨q, hq⟩ ⟨k, hk⟩

/-- What a word tells of a byte c (spread over its eight places): nought only if no byte of m is it. -/
def hitZ (m c : Int) : Int :=
  bits .and .u64 (bits .and .u64 (IntKind.u64.wrap (bits .xor .u64 m c - 72340172838076673)) (bits .xor .u64 (if IntKind.u64.signed = true then -1 else IntKind.u64.max) (bits .xor .u64 m c))) 9259542123273814144

theorem hitZ_eq (m c : Nat) (hm : m < 2 ^ 64) (hc : c < 2 ^ 64) :
    hitZ m c = ((((m ^^^ c) + 18446744073709551616 - 72340172838076673) % 18446744073709551616 &&& (18446744073709551615 - (m ^^^ c))) &&& 9259542123273814144 : Nat) := by
  unfold hitZ
  have hx : m ^^^ c < 2 ^ 64 := Nat.xor_lt_two_pow hm hc
  rw [bits_xor m c hm hc]
  generalize m ^^^ c = x at hx
  have e1 : IntKind.u64.wrap ((x : Int) - 72340172838076673) = (((x + 18446744073709551616 - 72340172838076673) % 18446744073709551616 : Nat) : Int) := by
    simp only [IntKind.wrap, IntKind.bits, IntKind.signed]
    simp
    omega
  have e2 : (if IntKind.u64.signed = true then (-1 : Int) else IntKind.u64.max) = ((18446744073709551615 : Nat) : Int) := by decide
  have hx' : x < 18446744073709551616 := hx
  have e3 : (18446744073709551615 ^^^ x : Nat) = 18446744073709551615 - x := by
    apply Nat.eq_of_testBit_eq
    intro i
    have h1 := Nat.testBit_two_pow_sub_succ hx i
    have h2 : (18446744073709551615 : Nat) = 2 ^ 64 - 1 := by decide
    rw [Nat.testBit_xor, h2, Nat.testBit_two_pow_sub_one, show 2 ^ 64 - 1 - x = 2 ^ 64 - (x + 1) by omega, h1]
    by_cases hi : i < 64
    · simp [hi]
    · simp [hi]
      rw [Nat.testBit_lt_two_pow]
      exact Nat.lt_of_lt_of_le hx (Nat.pow_le_pow_right (by decide) (by omega))
  rw [e1, e2, bits_xor _ x (by decide) hx, e3, bits_and _ _ (Nat.mod_lt _ (by decide)) (by omega)]
  rw [show (9259542123273814144 : Int) = ((9259542123273814144 : Nat) : Int) from rfl, bits_and _ _ (Nat.and_lt_two_pow _ (by omega)) (by decide)]

theorem hitZ_none (m q : Nat) (hm : m < 2 ^ 64) (hq : q < 256) (h : hitZ m (q * 72340172838076673 : Nat) = 0) : ∀ k, k < 8 → m / 256 ^ k % 256 ≠ q := by
  rw [hitZ_eq m _ hm (by omega)] at h
  intro k hk e
  have hx : m ^^^ (q * 72340172838076673) < 2 ^ 64 := Nat.xor_lt_two_pow hm (by omega)
  refine zero_byte _ hx (by exact_mod_cast h) k hk ?_
  rw [xor_byte, spread_byte q hq k hk, e, Nat.xor_self]

theorem hitZ_nat (m c : Nat) (hm : m < 2 ^ 64) (hc : c < 2 ^ 64) : ∃ n : Nat, hitZ m c = n ∧ n < 2 ^ 64 := ⟨_, hitZ_eq m c hm hc, Nat.and_lt_two_pow _ (by decide)⟩

/-- The walk's own test: no byte of the word is the quotation mark or the backslash. -/
theorem swar_none (m q : Nat) (hm : m < 2 ^ 64) (hq : q < 256) (h : (bits .or .u64 (hitZ m (IntKind.u64.wrap (IntKind.u64.wrap q * 72340172838076673))) (hitZ m 6655295901103053916) == 0) = true) :
    ∀ k, k < 8 → m / 256 ^ k % 256 ≠ q ∧ m / 256 ^ k % 256 ≠ 92 := by
  have e1 : IntKind.u64.wrap (IntKind.u64.wrap q * 72340172838076673) = ((q * 72340172838076673 : Nat) : Int) := by
    simp only [IntKind.wrap, IntKind.bits, IntKind.signed]
    simp
    omega
  have e2 : (6655295901103053916 : Int) = ((92 * 72340172838076673 : Nat) : Int) := by decide
  rw [e1, e2] at h
  obtain ⟨a, ha, la⟩ := hitZ_nat m (q * 72340172838076673) hm (by omega)
  obtain ⟨b, hb, lb⟩ := hitZ_nat m (92 * 72340172838076673) hm (by decide)
  rw [ha, hb, bits_or a b la lb] at h
  have h0 : a ||| b = 0 := by simpa using h
  have ha0 : a = 0 := by have := Nat.left_le_or (n := a) (m := b); omega
  have hb0 : b = 0 := by have := Nat.right_le_or (n := a) (m := b); omega
  intro k hk
  exact ⟨hitZ_none m q hm hq (by rw [ha, ha0]; rfl) k hk, hitZ_none m 92 hm (by decide) (by rw [hb, hb0]; rfl) k hk⟩


theorem leNat_byte : ∀ (l : List UInt8) (k : Nat) (h : k < l.length), Lib.leNat l / 256 ^ k % 256 = (l[k]).toNat
  | [], k, h => absurd h (by simp)
  | b :: r, 0, _ => by
    have := b.toNat_lt
    simp only [Lib.leNat, Nat.pow_zero, Nat.div_one, List.getElem_cons_zero]
    omega
  | b :: r, k + 1, h => by
    have := b.toNat_lt
    have e : (b.toNat + 256 * Lib.leNat r) / 256 = Lib.leNat r := by omega
    simp only [Lib.leNat, List.getElem_cons_succ]
    rw [Nat.pow_succ, Nat.mul_comm (256 ^ k) 256, ← Nat.div_div_eq_div_mul, e]
    exact leNat_byte r k (by simpa using h)
theorem leNat_lt : ∀ l : List UInt8, Lib.leNat l < 256 ^ l.length
  | [] => by simp [Lib.leNat]
  | b :: r => by
    have := b.toNat_lt
    have := leNat_lt r
    simp only [Lib.leNat, List.length_cons, Nat.pow_succ]
    omega

/-- Where the test tells that no byte is there, none of the eight is the quotation mark or a backslash. -/
theorem swar_skip (q : UInt8) (l : List UInt8) (k m : Nat) (h8 : k + 8 ≤ l.length) (hm : m = Lib.leNat ((l.drop k).take 8))
    (h : (bits .or .u64 (hitZ m (IntKind.u64.wrap (IntKind.u64.wrap q.toNat * 72340172838076673))) (hitZ m 6655295901103053916) == 0) = true) :
    ∀ j, k ≤ j → j < k + 8 → l[j]? ≠ some q ∧ l[j]? ≠ some 92 := by
  have hl : ((l.drop k).take 8).length = 8 := by rw [List.length_take, List.length_drop]; omega
  have hlt : m < 2 ^ 64 := by
    have := leNat_lt ((l.drop k).take 8)
    rw [hl] at this
    rw [hm]
    exact this
  intro j h1 h2
  have hb := swar_none m q.toNat hlt q.toNat_lt h (j - k) (by omega)
  rw [hm, leNat_byte _ _ (by omega)] at hb
  have e : ((l.drop k).take 8)[j - k]'(by omega) = l[j]'(by omega) := by
    rw [List.getElem_take, List.getElem_drop]
    congr 1
    omega
  rw [e] at hb
  rw [List.getElem?_eq_getElem (by omega)]
  refine ⟨fun hh => hb.1 (by rw [Option.some.inj hh]), fun hh => hb.2 (by rw [Option.some.inj hh]; rfl)⟩

end Go.Proofs.YtifcmhekpbfboaaDoor
