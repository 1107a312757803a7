/- What spec.Places reads, told in the bytes that parseSquash sees: every array and object of a text that is read ends where its bracket is closed. No condition. -/
import Derived.Test.YtifcmhekpbfboaaDoorMFnGjSquashAt5
import Derived.Test.YtifcmhekpbfboaaDoorSqPlain
namespace Go.Proofs.YtifcmhekpbfboaaDoor.Pure
set_option linter.unusedVariables false
open Go.RowKit Go.Proofs.YtifcmhekpbfboaaDoor Go.Proofs.YtifcmhekpbfboaaDoor.MFnGjSquashAt Go.Proofs.YtifcmhekpbfboaaDoorW.PrintWords Go.Proofs.YtifcmhekpbfboaaDoorW.PrintLast

def Ev {α : Type} (f : Nat → Option α) (r : α) : Prop := ∃ K, ∀ k, K ≤ k → f k = some r
theorem Ev.const {α : Type} {f : Nat → Option α} {r : α} (h : ∀ k, f k = some r) : Ev f r := ⟨0, fun k _ => h k⟩
theorem Ev.succ {α : Type} {f : Nat → Option α} {r : α} (h : Ev (fun k => f (k + 1)) r) : Ev f r := by
  obtain ⟨K, h⟩ := h
  refine ⟨K + 1, fun k hk => ?_⟩
  obtain ⟨m, rfl⟩ : ∃ m, k = m + 1 := ⟨k - 1, by omega⟩
  exact h m (by omega)
theorem Ev.congr {α : Type} {f g : Nat → Option α} {r : α} (h : Ev g r) (e : ∀ k, f k = g k) : Ev f r := by
  obtain ⟨K, h⟩ := h
  exact ⟨K, fun k hk => (e k).trans (h k hk)⟩
theorem Ev.bind {α β : Type} {f : Nat → Option α} {g : Nat → α → Option β} {a : α} {r : β} (h : Ev f a) (h2 : Ev (fun k => g k a) r) : Ev (fun k => (f k).bind (g k)) r := by
  obtain ⟨K, h⟩ := h
  obtain ⟨L, h2⟩ := h2
  refine ⟨max K L, fun k hk => ?_⟩
  simp only [h k (by omega), Option.bind_some]
  exact h2 k (by omega)

theorem w64 {n : Int} (h : 0 ≤ n) (h2 : n ≤ 9223372036854775807) : wrap64 n = n := by unfold wrap64; omega
theorem w1 {p : Nat} (h : p ≤ 4294967296) : wrap64 ((p : Int) + 1) = ((p + 1 : Nat) : Int) := by rw [w64 (by omega) (by omega)]; omega
theorem bt_nat {s : ByteArray} {i : Nat} (h : i < s.size) : bt s (i : Int) = ((s[i]).toNat : Int) := by
  unfold bt
  rw [dif_pos (by simpa using h)]
  simp
theorem u8e {c : UInt8} {n : Nat} (hn : n < 256) : ((c.toNat : Int) = (n : Int)) ↔ c = UInt8.ofNat n := by
  constructor
  · intro h
    apply UInt8.toNat_inj.1
    rw [UInt8.toNat_ofNat_of_lt' (by simpa using hn)]
    omega
  · rintro rfl
    rw [UInt8.toNat_ofNat_of_lt' (by simpa using hn)]

/-- Behind j the search goes on as at i. -/
def Nt (t : ByteArray) (i j : Nat) : Prop := i ≤ j ∧ j ≤ t.size ∧ ∀ d, 1 ≤ d → sq (t.data.toList.drop i) none d = sq (t.data.toList.drop j) none d
theorem Nt.refl {t : ByteArray} {i : Nat} (h : i ≤ t.size) : Nt t i i := ⟨Nat.le_refl _, h, fun _ _ => rfl⟩
theorem Nt.trans {t : ByteArray} {i j k : Nat} (h : Nt t i j) (g : Nt t j k) : Nt t i k := ⟨Nat.le_trans h.1 g.1, g.2.1, fun d hd => (h.2.2 d hd).trans (g.2.2 d hd)⟩
theorem Nt.one {t : ByteArray} {i : Nat} (h : i < t.size) (hc : vch t[i] = 0) : Nt t i (i + 1) := ⟨by omega, h, fun d _ => sq_plain h hc d⟩
theorem v0 {c : UInt8} {n : Nat} (hn : n < 256) (h : (c.toNat : Int) = (n : Int)) (hv : vch (UInt8.ofNat n) = 0) : vch c = 0 := by
  rw [(u8e hn).1 h]; exact hv
theorem v0_of {c : UInt8} (h : c.toNat ≠ 34 ∧ c.toNat ≠ 91 ∧ c.toNat ≠ 123 ∧ c.toNat ≠ 40 ∧ c.toNat ≠ 93 ∧ c.toNat ≠ 125 ∧ c.toNat ≠ 41) : vch c = 0 := by
  have ne : ∀ n : Nat, n < 256 → c.toNat ≠ n → c ≠ UInt8.ofNat n := by
    intro n hn hc e
    rw [e, UInt8.toNat_ofNat_of_lt' (by simpa using hn)] at hc
    exact hc rfl
  have a1 : c ≠ 34 := ne 34 (by decide) h.1
  have a2 : c ≠ 91 := ne 91 (by decide) h.2.1
  have a3 : c ≠ 123 := ne 123 (by decide) h.2.2.1
  have a4 : c ≠ 40 := ne 40 (by decide) h.2.2.2.1
  have a5 : c ≠ 93 := ne 93 (by decide) h.2.2.2.2.1
  have a6 : c ≠ 125 := ne 125 (by decide) h.2.2.2.2.2.1
  have a7 : c ≠ 41 := ne 41 (by decide) h.2.2.2.2.2.2
  simp [vch, opensC, closesC, a1, a2, a3, a4, a5, a6, a7]


theorem blank_f {t : ByteArray} (hs : t.size ≤ 2147483647) (c : Int) : ∃ b, spec_Blank.f c = some b ∧ (b = true → c = 32 ∨ c = 9 ∨ c = 10 ∨ c = 13) := by
  unfold spec_Blank.f
  by_cases h1 : c = 32
  · exact ⟨true, by rw [if_pos h1], fun _ => .inl h1⟩
  · by_cases h2 : c = 9
    · exact ⟨true, by rw [if_neg h1, if_pos h2], fun _ => .inr (.inl h2)⟩
    · by_cases h3 : c = 10
      · exact ⟨true, by rw [if_neg h1, if_neg h2, if_pos h3], fun _ => .inr (.inr (.inl h3))⟩
      · exact ⟨c == 13, by rw [if_neg h1, if_neg h2, if_neg h3], fun h => .inr (.inr (.inr (by simpa using h)))⟩

theorem blanks_l {t : ByteArray} (hs : t.size ≤ 2147483647) : ∀ (n p : Nat), t.size - p = n → p ≤ t.size → ∃ q : Nat, Ev (fun k => spec_reader_blanks.l0 k t (p : Int)) (t, (q : Int)) ∧ Nt t p q := by
  intro n
  induction n with
  | zero =>
    intro p hn hp
    exact ⟨p, .succ (.const fun k => by simp only [spec_reader_blanks.l0]; rw [if_neg (by omega)]), .refl hp⟩
  | succ n ih =>
    intro p hn hp
    have hlt : p < t.size := by omega
    obtain ⟨b, hb, hb2⟩ := blank_f hs (bt t (p : Int))
    cases b with
    | false => exact ⟨p, .succ (.const fun k => by simp only [spec_reader_blanks.l0]; rw [if_pos (by omega), if_pos (by omega), hb]; rfl), .refl hp⟩
    | true =>
      obtain ⟨q, hq, hN⟩ := ih (p + 1) (by omega) (by omega)
      refine ⟨q, .succ (hq.congr fun k => by simp only [spec_reader_blanks.l0]; rw [if_pos (by omega), if_pos (by omega), hb, w1 (by omega)]; rfl), Nt.trans (.one hlt ?_) hN⟩
      have h := hb2 rfl
      rw [bt_nat hlt] at h
      exact v0_of (by omega)
theorem blanks_f {t : ByteArray} (hs : t.size ≤ 2147483647) (p : Nat) (hp : p ≤ t.size) : ∃ q : Nat, Ev (fun k => spec_reader_blanks.f k t (p : Int)) (t, (q : Int)) ∧ Nt t p q := blanks_l hs _ p rfl hp

/-- The byte at p, 0 at the end. -/
def hv (t : ByteArray) (p : Nat) : Int := if h : p < t.size then ((t[p]).toNat : Int) else 0
theorem here_f {t : ByteArray} (hs : t.size ≤ 2147483647) (p : Nat) : spec_reader_here.f t (p : Int) = some (hv t p, t, (p : Int)) := by
  unfold spec_reader_here.f hv
  by_cases h : p < t.size
  · rw [if_pos (by omega), if_pos (by omega), dif_pos h, bt_nat h]
  · rw [if_neg (by omega), dif_neg h]
theorem hv_lt {t : ByteArray} (hs : t.size ≤ 2147483647) {p : Nat} (h : hv t p ≠ 0) : ∃ hp : p < t.size, hv t p = ((t[p]).toNat : Int) := by
  unfold hv at h ⊢
  by_cases hp : p < t.size
  · exact ⟨hp, by rw [dif_pos hp]⟩
  · rw [dif_neg hp] at h
    exact absurd rfl h

theorem take_f {t : ByteArray} (hs : t.size ≤ 2147483647) (p : Nat) (hp : p ≤ t.size) (c : Int) (hc : c ≠ 0) : spec_reader_take.f t (p : Int) c = some (if hv t p = c then (true, t, ((p + 1 : Nat) : Int)) else (false, t, (p : Int))) := by
  unfold spec_reader_take.f hv
  by_cases h : p < t.size
  · rw [if_pos (by omega), if_pos (by omega), dif_pos h, bt_nat h]
    by_cases hq : ((t[p]).toNat : Int) = c
    · rw [if_pos hq, if_pos hq, w1 (by omega)]
    · rw [if_neg hq, if_neg hq]
  · rw [if_neg (by omega), dif_neg h, if_neg (fun e => hc e.symm)]
/-- A mark that is gone over or not: nothing for the search. -/
theorem take_nt {t : ByteArray} (hs : t.size ≤ 2147483647) (p : Nat) (hp : p ≤ t.size) (c : Nat) (hc : c ≠ 0 ∧ c ≠ 34 ∧ c ≠ 91 ∧ c ≠ 123 ∧ c ≠ 40 ∧ c ≠ 93 ∧ c ≠ 125 ∧ c ≠ 41) : ∃ (b : Bool) (q : Nat), spec_reader_take.f t (p : Int) (c : Int) = some (b, t, (q : Int)) ∧ Nt t p q := by
  rw [take_f hs p hp (c : Int) (by omega)]
  by_cases h : hv t p = (c : Int)
  · rw [if_pos h]
    obtain ⟨hlt, h2⟩ := hv_lt hs (p := p) (by omega)
    exact ⟨true, p + 1, rfl, .one hlt (v0_of (by omega))⟩
  · rw [if_neg h]
    exact ⟨false, p, rfl, .refl hp⟩

theorem digits_l {t : ByteArray} (hs : t.size ≤ 2147483647) (x3 : Int) : ∀ (n p : Nat), t.size - p = n → p ≤ t.size → ∃ (b : Bool) (q : Nat), Ev (fun k => spec_reader_digits.l0 k x3 (hv t p) t (p : Int)) (b, t, (q : Int)) ∧ Nt t p q := by
  intro n
  induction n with
  | zero =>
    intro p hn hp
    have h0 : hv t p = 0 := by unfold hv; rw [dif_neg (by omega)]
    exact ⟨_, p, .succ (.const fun k => by simp only [spec_reader_digits.l0, h0]; rw [if_neg (by decide)]), .refl hp⟩
  | succ n ih =>
    intro p hn hp
    have hlt : p < t.size := by omega
    by_cases h1 : 48 ≤ hv t p
    · by_cases h2 : hv t p ≤ 57
      · obtain ⟨b, q, hq, hN⟩ := ih (p + 1) (by omega) (by omega)
        obtain ⟨_, h3⟩ := hv_lt hs (p := p) (by omega)
        exact ⟨b, q, .succ (hq.congr fun k => by simp only [spec_reader_digits.l0]; rw [if_pos h1, if_pos h2, w1 (by omega), here_f hs]; rfl), Nt.trans (.one hlt (v0_of (by omega))) hN⟩
      · exact ⟨_, p, .succ (.const fun k => by simp only [spec_reader_digits.l0]; rw [if_pos h1, if_neg h2]), .refl hp⟩
    · exact ⟨_, p, .succ (.const fun k => by simp only [spec_reader_digits.l0]; rw [if_neg h1]), .refl hp⟩
theorem digits_f {t : ByteArray} (hs : t.size ≤ 2147483647) (p : Nat) (hp : p ≤ t.size) : ∃ (b : Bool) (q : Nat), Ev (fun k => spec_reader_digits.f k t (p : Int)) (b, t, (q : Int)) ∧ Nt t p q := by
  obtain ⟨b, q, hq, hN⟩ := digits_l hs (p : Int) _ p rfl hp
  exact ⟨b, q, hq.congr fun k => by simp only [spec_reader_digits.f]; rw [here_f hs]; rfl, hN⟩

theorem num_j2 {t : ByteArray} (hs : t.size ≤ 2147483647) (x : Bool) (p : Nat) (hp : p ≤ t.size) : ∃ (b : Bool) (q : Nat), Ev (fun k => spec_reader_number.j2 k x t (p : Int)) (b, t, (q : Int)) ∧ Nt t p q := by
  cases x with
  | false => exact ⟨true, p, .succ (.const fun k => by simp only [spec_reader_number.j2]; rfl), .refl hp⟩
  | true =>
    obtain ⟨b1, q1, e1, n1⟩ := take_nt hs p hp 43 (by decide)
    cases b1 with
    | true =>
      obtain ⟨b2, q2, ⟨K, e2⟩, n2⟩ := digits_f hs q1 n1.2.1
      exact ⟨b2, q2, .succ ⟨K, fun k hk => by have e3 := e2 k hk; simp only at e3; simp only [spec_reader_number.j2]; rw [if_pos trivial, show (43 : Int) = ((43 : Nat) : Int) from rfl, e1, Option.bind_some, if_pos rfl, e3]; rfl⟩, n1.trans n2⟩
    | false =>
      obtain ⟨b2, q2, e2, n2⟩ := take_nt hs q1 n1.2.1 45 (by decide)
      obtain ⟨b3, q3, ⟨K, e3⟩, n3⟩ := digits_f hs q2 n2.2.1
      exact ⟨b3, q3, .succ ⟨K, fun k hk => by have e4 := e3 k hk; simp only at e4; simp only [spec_reader_number.j2]; rw [if_pos trivial, show (43 : Int) = ((43 : Nat) : Int) from rfl, e1, Option.bind_some, if_neg (by simp), show (45 : Int) = ((45 : Nat) : Int) from rfl, e2, Option.bind_some, e4]; rfl⟩, (n1.trans n2).trans n3⟩
theorem num_j1 {t : ByteArray} (hs : t.size ≤ 2147483647) (x : Bool) (p : Nat) (hp : p ≤ t.size) : ∃ (b : Bool) (q : Nat), Ev (fun k => spec_reader_number.j1 k x t (p : Int)) (b, t, (q : Int)) ∧ Nt t p q := by
  cases x with
  | true => exact ⟨false, p, .succ (.const fun k => by simp only [spec_reader_number.j1]; rfl), .refl hp⟩
  | false =>
    obtain ⟨b1, q1, e1, n1⟩ := take_nt hs p hp 101 (by decide)
    cases b1 with
    | true =>
      obtain ⟨b2, q2, ⟨K, e2⟩, n2⟩ := num_j2 hs true q1 n1.2.1
      exact ⟨b2, q2, .succ ⟨K, fun k hk => by have e3 := e2 k hk; simp only at e3; simp only [spec_reader_number.j1]; rw [if_neg (by decide), show (101 : Int) = ((101 : Nat) : Int) from rfl, e1, Option.bind_some, if_pos rfl, e3]⟩, n1.trans n2⟩
    | false =>
      obtain ⟨b2, q2, e2, n2⟩ := take_nt hs q1 n1.2.1 69 (by decide)
      obtain ⟨b3, q3, ⟨K, e3⟩, n3⟩ := num_j2 hs b2 q2 n2.2.1
      exact ⟨b3, q3, .succ ⟨K, fun k hk => by have e4 := e3 k hk; simp only at e4; simp only [spec_reader_number.j1]; rw [if_neg (by decide), show (101 : Int) = ((101 : Nat) : Int) from rfl, e1, Option.bind_some, if_neg (by simp), show (69 : Int) = ((69 : Nat) : Int) from rfl, e2, Option.bind_some, e4]⟩, (n1.trans n2).trans n3⟩
theorem num_j0 {t : ByteArray} (hs : t.size ≤ 2147483647) (x : Bool) (p : Nat) (hp : p ≤ t.size) : ∃ (b : Bool) (q : Nat), Ev (fun k => spec_reader_number.j0 k x t (p : Int)) (b, t, (q : Int)) ∧ Nt t p q := by
  cases x with
  | true => exact ⟨false, p, .succ (.const fun k => by simp only [spec_reader_number.j0]; rfl), .refl hp⟩
  | false =>
    obtain ⟨b1, q1, e1, n1⟩ := take_nt hs p hp 46 (by decide)
    cases b1 with
    | true =>
      obtain ⟨b2, q2, ⟨K, e2⟩, n2⟩ := digits_f hs q1 n1.2.1
      obtain ⟨b3, q3, ⟨K3, e3⟩, n3⟩ := num_j1 hs (!b2) q2 n2.2.1
      exact ⟨b3, q3, .succ ⟨max K K3, fun k hk => by have e4 := e2 k (by omega); have e5 := e3 k (by omega); simp only at e4 e5; simp only [spec_reader_number.j0]; rw [if_neg (by decide), show (46 : Int) = ((46 : Nat) : Int) from rfl, e1, Option.bind_some, if_pos rfl, e4, Option.bind_some, e5]⟩, (n1.trans n2).trans n3⟩
    | false =>
      obtain ⟨b3, q3, ⟨K3, e3⟩, n3⟩ := num_j1 hs false q1 n1.2.1
      exact ⟨b3, q3, .succ ⟨K3, fun k hk => by have e5 := e3 k (by omega); simp only at e5; simp only [spec_reader_number.j0]; rw [if_neg (by decide), show (46 : Int) = ((46 : Nat) : Int) from rfl, e1, Option.bind_some, if_neg (by simp), e5]⟩, n1.trans n3⟩
theorem digits_g {t : ByteArray} (hs : t.size ≤ 2147483647) (p : Nat) (hp : p ≤ t.size) : ∃ (b : Bool) (q : Nat), Ev (fun k => spec_reader_digits.f k t (p : Int)) (b, t, (q : Int)) ∧ Nt t p q ∧ (48 ≤ hv t p → hv t p ≤ 57 → p < q) := by
  by_cases h1 : 48 ≤ hv t p
  · by_cases h2 : hv t p ≤ 57
    · obtain ⟨hlt, h3⟩ := hv_lt hs (p := p) (by omega)
      obtain ⟨b, q, ⟨K, hq⟩, hN⟩ := digits_l hs (p : Int) _ (p + 1) rfl (by omega)
      have l1 := hN.1
      refine ⟨b, q, .succ ⟨K + 1, fun k hk => ?_⟩, Nt.trans (.one hlt (v0_of (by omega))) hN, fun _ _ => by omega⟩
      have e := hq k (by omega)
      simp only at e
      simp only [spec_reader_digits.f, spec_reader_digits.l0]
      rw [here_f hs, Option.bind_some, if_pos h1, if_pos h2, w1 (by omega), here_f hs, Option.bind_some]
      exact e
    · obtain ⟨b, q, e, n1⟩ := digits_f hs p hp
      exact ⟨b, q, e, n1, fun _ h => absurd h h2⟩
  · obtain ⟨b, q, e, n1⟩ := digits_f hs p hp
    exact ⟨b, q, e, n1, fun h _ => absurd h h1⟩
def numR (t : ByteArray) (k q1 : Nat) : Option (Bool × ByteArray × Int) := (spec_reader_take.f t (q1 : Int) 48).bind fun bt122 => (if bt122.1 = true then (spec_reader_number.j0 k false bt122.2.1 bt122.2.2) else ((spec_reader_digits.f k bt122.2.1 bt122.2.2).bind fun bt125 => (spec_reader_number.j0 k (!bt125.1) bt125.2.1 bt125.2.2)))
theorem num_rest {t : ByteArray} (hs : t.size ≤ 2147483647) (q1 : Nat) (hq1 : q1 ≤ t.size) : ∃ (b : Bool) (q : Nat), Ev (fun k => numR t k q1) (b, t, (q : Int)) ∧ Nt t q1 q ∧ (48 ≤ hv t q1 → hv t q1 ≤ 57 → q1 < q) := by
  by_cases h48 : hv t q1 = 48
  · obtain ⟨hlt, h3⟩ := hv_lt hs (p := q1) (by omega)
    obtain ⟨b3, q3, ⟨K, e3⟩, n3⟩ := num_j0 hs false (q1 + 1) (by omega)
    have l3 := n3.1
    refine ⟨b3, q3, ⟨K, fun k hk => ?_⟩, Nt.trans (.one hlt (v0_of (by omega))) n3, fun _ _ => by omega⟩
    have e4 := e3 k hk
    simp only at e4
    simp only [numR]
    rw [take_f hs q1 hq1 48 (by decide), if_pos h48, Option.bind_some, if_pos rfl, e4]
  · obtain ⟨b4, q4, ⟨K4, e4⟩, n4, g4⟩ := digits_g hs q1 hq1
    obtain ⟨b3, q3, ⟨K, e3⟩, n3⟩ := num_j0 hs (!b4) q4 n4.2.1
    have l3 := n3.1
    refine ⟨b3, q3, ⟨max K K4, fun k hk => ?_⟩, n4.trans n3, fun h1 h2 => by have := g4 h1 h2; omega⟩
    have e5 := e3 k (by omega)
    have e6 := e4 k (by omega)
    simp only at e5 e6
    simp only [numR]
    rw [take_f hs q1 hq1 48 (by decide), if_neg h48, Option.bind_some, if_neg (by simp), e6, Option.bind_some, e5]
theorem number_f {t : ByteArray} (hs : t.size ≤ 2147483647) (p : Nat) (hp : p ≤ t.size) (hd : hv t p = 45 ∨ (48 ≤ hv t p ∧ hv t p ≤ 57)) : ∃ (b : Bool) (q : Nat), Ev (fun k => spec_reader_number.f k t (p : Int)) (b, t, (q : Int)) ∧ Nt t p q ∧ p < q := by
  by_cases h45 : hv t p = 45
  · obtain ⟨hlt, h3⟩ := hv_lt hs (p := p) (by omega)
    obtain ⟨b, q, ⟨K, e⟩, n1, _⟩ := num_rest hs (p + 1) (by omega)
    have l1 := n1.1
    refine ⟨b, q, ⟨K, fun k hk => ?_⟩, Nt.trans (.one hlt (v0_of (by omega))) n1, by omega⟩
    have f := e k hk
    simp only [numR] at f
    simp only [spec_reader_number.f]
    rw [take_f hs p hp 45 (by decide), if_pos h45, Option.bind_some]
    exact f
  · have hd2 : 48 ≤ hv t p ∧ hv t p ≤ 57 := hd.resolve_left h45
    obtain ⟨b, q, ⟨K, e⟩, n1, g1⟩ := num_rest hs p hp
    refine ⟨b, q, ⟨K, fun k hk => ?_⟩, n1, g1 hd2.1 hd2.2⟩
    have f := e k hk
    simp only [numR] at f
    simp only [spec_reader_number.f]
    rw [take_f hs p hp 45 (by decide), if_neg h45, Option.bind_some]
    exact f

/-- A word of letters. -/
theorem word_f {t : ByteArray} (hs : t.size ≤ 2147483647) (p : Nat) (hp : p ≤ t.size) (a : ByteArray) (ha : a.size ≤ 10) (hv0 : ∀ c ∈ a.data.toList, vch c = 0) : ∃ (b : Bool) (q : Nat), spec_reader_word.f t (p : Int) a = some (b, t, (q : Int)) ∧ Nt t p q ∧ (b = true → q = p + a.size) := by
  unfold spec_reader_word.f
  rw [w64 (n := (t.size : Int) - (p : Int)) (by omega) (by omega), w64 (n := (p : Int) + (a.size : Int)) (by omega) (by omega)]
  by_cases h1 : (t.size : Int) - (p : Int) < (a.size : Int)
  · exact ⟨false, p, by rw [if_pos h1], .refl hp, fun h => by cases h⟩
  · rw [if_neg h1, if_pos (by omega), if_pos (by omega), if_pos (by omega)]
    have hc1 : ((p : Int)).toNat = p := by omega
    have hc2 : ((p : Int) + (a.size : Int)).toNat = p + a.size := by omega
    rw [hc1, hc2]
    by_cases h2 : (t.extract p (p + a.size)).toList = a.toList
    · refine ⟨true, p + a.size, by rw [if_pos h2]; congr 3, ?_, fun _ => rfl⟩
      have hsz : (t.extract p (p + a.size)).size = a.size := by rw [ByteArray.size_extract]; omega
      have he : t.extract p (p + a.size) = a := by
        rw [ByteArray.toList_eq, ByteArray.toList_eq] at h2
        apply ByteArray.ext
        exact Array.toList_inj.1 h2
      have hb : ∀ k, (hk : k < a.size) → vch (t[p + k]'(by omega)) = 0 := by
        intro k hk
        have h5 : (t.extract p (p + a.size))[k]'(by omega) = t[p + k]'(by omega) := by rw [ByteArray.getElem_extract]
        have h6 : (t.extract p (p + a.size))[k]'(by omega) = a[k] := by simp only [he]
        rw [← h5, h6]
        exact hv0 _ (by rw [show a[k] = a.data.toList[k]'(by rw [Array.length_toList]; exact hk) from rfl]; exact List.getElem_mem _)
      have key : ∀ k, k ≤ a.size → Nt t p (p + k) := by
        intro k
        induction k with
        | zero => intro _; exact .refl hp
        | succ k ih => intro hk; exact (ih (by omega)).trans (.one (by omega) (hb k (by omega)))
      exact key _ (Nat.le_refl _)
    · exact ⟨false, p, by rw [if_neg h2], .refl hp, fun h => by cases h⟩

theorem hex_f {t : ByteArray} (hs : t.size ≤ 2147483647) (c : Int) : ∃ r, Ev (fun k => spec_hexDigit.f k c) r ∧ (r.2 = true → (48 ≤ c ∧ c ≤ 57) ∨ (97 ≤ c ∧ c ≤ 102) ∨ (65 ≤ c ∧ c ≤ 70)) := by
  have J1 : ∀ b, (b = true → 97 ≤ c ∧ c ≤ 102) → ∃ r, Ev (fun k => spec_hexDigit.j1 k c b) r ∧ (r.2 = true → (48 ≤ c ∧ c ≤ 57) ∨ (97 ≤ c ∧ c ≤ 102) ∨ (65 ≤ c ∧ c ≤ 70)) := by
    intro b hb
    cases b with
    | true => exact ⟨_, .succ (.const fun k => by simp only [spec_hexDigit.j1]; rfl), fun _ => .inr (.inl (hb rfl))⟩
    | false =>
      by_cases h1 : 65 ≤ c
      · by_cases h2 : c ≤ 70
        · exact ⟨(((c - 65) % 256) + 10, true), .succ (.const fun k => by simp only [spec_hexDigit.j1]; rw [if_neg (by decide), if_pos h1, if_pos h2]), fun _ => .inr (.inr ⟨h1, h2⟩)⟩
        · exact ⟨(0, false), .succ (.const fun k => by simp only [spec_hexDigit.j1]; rw [if_neg (by decide), if_pos h1, if_neg h2]), fun h => by cases h⟩
      · exact ⟨(0, false), .succ (.const fun k => by simp only [spec_hexDigit.j1]; rw [if_neg (by decide), if_neg h1]), fun h => by cases h⟩
  have J0 : ∀ b, (b = true → 48 ≤ c ∧ c ≤ 57) → ∃ r, Ev (fun k => spec_hexDigit.j0 k c b) r ∧ (r.2 = true → (48 ≤ c ∧ c ≤ 57) ∨ (97 ≤ c ∧ c ≤ 102) ∨ (65 ≤ c ∧ c ≤ 70)) := by
    intro b hb
    cases b with
    | true => exact ⟨((c - 48) % 256, true), .succ (.const fun k => by simp only [spec_hexDigit.j0]; rfl), fun _ => .inl (hb rfl)⟩
    | false =>
      by_cases h1 : 97 ≤ c
      · obtain ⟨r, hr, hr2⟩ := J1 (decide (c ≤ 102)) (fun h => ⟨h1, of_decide_eq_true h⟩)
        exact ⟨r, .succ (hr.congr fun k => by simp only [spec_hexDigit.j0]; rw [if_neg (by decide), if_pos h1]), hr2⟩
      · obtain ⟨r, hr, hr2⟩ := J1 false (fun h => by cases h)
        exact ⟨r, .succ (hr.congr fun k => by simp only [spec_hexDigit.j0]; rw [if_neg (by decide), if_neg h1]), hr2⟩
  by_cases h1 : 48 ≤ c
  · obtain ⟨r, hr, hr2⟩ := J0 (decide (c ≤ 57)) (fun h => ⟨h1, of_decide_eq_true h⟩)
    exact ⟨r, hr.congr fun k => by simp only [spec_hexDigit.f]; rw [if_pos h1], hr2⟩
  · obtain ⟨r, hr, hr2⟩ := J0 false (fun h => by cases h)
    exact ⟨r, hr.congr fun k => by simp only [spec_hexDigit.f]; rw [if_neg h1], hr2⟩

/-- In a string: one byte on. -/
theorem in_one {t : ByteArray} (hs : t.size ≤ 2147483647) {i : Nat} (h : i < t.size) (f : Bool) (hc : t[i] ≠ 34 ∨ f = true) (d : Nat) : sq (t.data.toList.drop i) (some f) d = sq (t.data.toList.drop (i + 1)) (some (t[i] == 92 && !f)) d := by
  rw [sq_drop h]
  conv => lhs; unfold sq
  rw [if_neg (by rintro ⟨a, b⟩; rcases hc with hc | hc; exact hc a; rw [b] at hc; cases hc)]
theorem in_plain {t : ByteArray} (hs : t.size ≤ 2147483647) {i : Nat} (h : i < t.size) (h34 : (t[i]).toNat ≠ 34) (h92 : (t[i]).toNat ≠ 92) (d : Nat) : sq (t.data.toList.drop i) (some false) d = sq (t.data.toList.drop (i + 1)) (some false) d := by
  have a1 : t[i] ≠ 34 := fun e => h34 (by rw [e]; rfl)
  have a2 : t[i] ≠ 92 := fun e => h92 (by rw [e]; rfl)
  rw [in_one hs h false (.inl a1)]
  have : (t[i] == 92) = false := by simpa using a2
  rw [this]
  rfl
theorem hv_nn {t : ByteArray} (hs : t.size ≤ 2147483647) (p : Nat) : 0 ≤ hv t p := by unfold hv; split <;> omega

theorem esc_l {t : ByteArray} (hs : t.size ≤ 2147483647) : ∀ (m n p : Nat), n + m = 4 → p ≤ t.size → ∃ (b : Bool) (q : Nat), Ev (fun k => spec_reader_escape.l0 k (n : Int) t (p : Int)) (b, t, (q : Int)) ∧ p ≤ q ∧ q ≤ t.size ∧ (b = true → ∀ d, sq (t.data.toList.drop p) (some false) d = sq (t.data.toList.drop q) (some false) d) := by
  intro m
  induction m with
  | zero =>
    intro n p hn hp
    exact ⟨true, p, .succ (.const fun k => by simp only [spec_reader_escape.l0]; rw [if_neg (by omega)]), Nat.le_refl _, hp, fun _ _ => rfl⟩
  | succ m ih =>
    intro n p hn hp
    obtain ⟨r, ⟨K, hr⟩, hr2⟩ := hex_f hs (hv t p)
    cases hb : r.2 with
    | false => exact ⟨false, p, .succ ⟨K, fun k hk => by have e := hr k hk; simp only at e; simp only [spec_reader_escape.l0]; rw [if_pos (by omega), here_f hs, Option.bind_some, e, Option.bind_some, hb]; rfl⟩, Nat.le_refl _, hp, fun h => by cases h⟩
    | true =>
      have hx := hr2 hb
      obtain ⟨hlt, h3⟩ := hv_lt hs (p := p) (by omega)
      obtain ⟨b, q, ⟨K2, hq⟩, q1, q2, q3⟩ := ih (n + 1) (p + 1) (by omega) (by omega)
      refine ⟨b, q, .succ ⟨max K K2, fun k hk => ?_⟩, by omega, q2, fun h d => ?_⟩
      · have e := hr k (by omega)
        have e2 := hq k (by omega)
        simp only at e e2
        simp only [spec_reader_escape.l0]
        rw [if_pos (by omega), here_f hs, Option.bind_some, e, Option.bind_some, hb, if_pos rfl, w1 (p := n) (by omega), w1 (by omega)]
        exact e2
      · rw [in_plain hs hlt (by omega) (by omega)]
        exact q3 h d

theorem esc_j {t : ByteArray} (hs : t.size ≤ 2147483647) (x : Bool) (p : Nat) (hp : p ≤ t.size) (hx : x = true → hv t p ≠ 0) : ∃ (b : Bool) (q : Nat), Ev (fun k => spec_reader_escape.j0 k (hv t p) x t (p : Int)) (b, t, (q : Int)) ∧ p ≤ q ∧ q ≤ t.size ∧ (b = true → ∀ d, sq (t.data.toList.drop p) (some true) d = sq (t.data.toList.drop q) (some false) d) := by
  have step : ∀ (hlt : p < t.size) d, sq (t.data.toList.drop p) (some true) d = sq (t.data.toList.drop (p + 1)) (some false) d := by
    intro hlt d
    rw [in_one hs hlt true (.inr rfl)]
    simp
  cases x with
  | true =>
    obtain ⟨hlt, _⟩ := hv_lt hs (p := p) (hx rfl)
    exact ⟨true, p + 1, .succ (.const fun k => by simp only [spec_reader_escape.j0]; rw [if_pos trivial, w1 (by omega)]), by omega, by omega, fun _ d => step hlt d⟩
  | false =>
    by_cases h : hv t p = 117
    · obtain ⟨hlt, _⟩ := hv_lt hs (p := p) (by omega)
      obtain ⟨b, q, ⟨K, hq⟩, q1, q2, q3⟩ := esc_l hs 4 0 (p + 1) rfl (by omega)
      refine ⟨b, q, .succ ⟨K, fun k hk => ?_⟩, by omega, q2, fun hb d => (step hlt d).trans (q3 hb d)⟩
      have e := hq k hk
      simp only at e
      simp only [spec_reader_escape.j0]
      rw [if_neg (by decide), if_pos h, w1 (by omega)]
      exact e
    · exact ⟨false, p, .succ (.const fun k => by simp only [spec_reader_escape.j0]; rw [if_neg (by decide), if_neg h]), Nat.le_refl _, hp, fun h => by cases h⟩

theorem esc_f {t : ByteArray} (hs : t.size ≤ 2147483647) (p : Nat) (hp : p ≤ t.size) : ∃ (b : Bool) (q : Nat), Ev (fun k => spec_reader_escape.f k t (p : Int)) (b, t, (q : Int)) ∧ p ≤ q ∧ q ≤ t.size ∧ (b = true → ∀ d, sq (t.data.toList.drop p) (some true) d = sq (t.data.toList.drop q) (some false) d) := by
  have fin : ∀ x : Bool, (x = true → hv t p ≠ 0) → (∀ k, spec_reader_escape.f k t (p : Int) = spec_reader_escape.j0 k (hv t p) x t (p : Int)) → ∃ (b : Bool) (q : Nat), Ev (fun k => spec_reader_escape.f k t (p : Int)) (b, t, (q : Int)) ∧ p ≤ q ∧ q ≤ t.size ∧ (b = true → ∀ d, sq (t.data.toList.drop p) (some true) d = sq (t.data.toList.drop q) (some false) d) := by
    intro x hx he
    obtain ⟨b, q, hq, h⟩ := esc_j hs x p hp hx
    exact ⟨b, q, hq.congr he, h⟩
  have hu : ∀ k, spec_reader_escape.f k t (p : Int) = _ := fun k => by
    simp only [spec_reader_escape.f]
    rw [here_f hs, Option.bind_some]
  by_cases h1 : hv t p = 34
  · exact fin (hv t p == 34) (fun _ => by omega) fun k => by rw [hu k, if_pos h1]
  · by_cases h2 : hv t p = 92
    · exact fin (hv t p == 92) (fun _ => by omega) fun k => by rw [hu k, if_neg h1, if_pos h2]
    · by_cases h3 : hv t p = 47
      · exact fin (hv t p == 47) (fun _ => by omega) fun k => by rw [hu k, if_neg h1, if_neg h2, if_pos h3]
      · by_cases h4 : hv t p = 98
        · exact fin (hv t p == 98) (fun _ => by omega) fun k => by rw [hu k, if_neg h1, if_neg h2, if_neg h3, if_pos h4]
        · by_cases h5 : hv t p = 102
          · exact fin (hv t p == 102) (fun _ => by omega) fun k => by rw [hu k, if_neg h1, if_neg h2, if_neg h3, if_neg h4, if_pos h5]
          · by_cases h6 : hv t p = 110
            · exact fin (hv t p == 110) (fun _ => by omega) fun k => by rw [hu k, if_neg h1, if_neg h2, if_neg h3, if_neg h4, if_neg h5, if_pos h6]
            · by_cases h7 : hv t p = 114
              · exact fin (hv t p == 114) (fun _ => by omega) fun k => by rw [hu k, if_neg h1, if_neg h2, if_neg h3, if_neg h4, if_neg h5, if_neg h6, if_pos h7]
              · exact fin (hv t p == 116) (fun h => by simp at h; omega) fun k => by rw [hu k, if_neg h1, if_neg h2, if_neg h3, if_neg h4, if_neg h5, if_neg h6, if_neg h7]

theorem quoted_l {t : ByteArray} (hs : t.size ≤ 2147483647) : ∀ (n p : Nat), t.size - p ≤ n → p ≤ t.size → ∃ (b : Bool) (q : Nat), Ev (fun k => spec_reader_quoted.l0 k t (p : Int)) (b, t, (q : Int)) ∧ p ≤ q ∧ q ≤ t.size ∧ (b = true → ∀ d, sq (t.data.toList.drop p) (some false) d = sq (t.data.toList.drop q) none d) := by
  intro n
  induction n with
  | zero =>
    intro p hn hp
    exact ⟨false, p, .succ (.const fun k => by simp only [spec_reader_quoted.l0]; rw [if_neg (by omega)]), Nat.le_refl _, hp, fun h => by cases h⟩
  | succ n ih =>
    intro p hn hp
    by_cases hlt : p < t.size
    · by_cases h1 : bt t (p : Int) = 34
      · refine ⟨true, p + 1, .succ (.const fun k => by simp only [spec_reader_quoted.l0]; rw [if_pos (by omega), if_pos (by omega), if_pos h1, w1 (by omega)]), by omega, by omega, fun _ d => ?_⟩
        rw [bt_nat hlt] at h1
        have h34 : t[p] = 34 := (u8e (n := 34) (by decide)).1 h1
        rw [sq_drop hlt]
        conv => lhs; unfold sq
        rw [if_pos ⟨h34, rfl⟩]
      · by_cases h2 : bt t (p : Int) < 32
        · exact ⟨false, p + 1, .succ (.const fun k => by simp only [spec_reader_quoted.l0]; rw [if_pos (by omega), if_pos (by omega), if_neg h1, if_pos h2, w1 (by omega)]), by omega, by omega, fun h => by cases h⟩
        · by_cases h3 : bt t (p : Int) = 92
          · obtain ⟨b, q, ⟨K, hq⟩, q1, q2, q3⟩ := esc_f hs (p + 1) (by omega)
            have st : ∀ d, sq (t.data.toList.drop p) (some false) d = sq (t.data.toList.drop (p + 1)) (some true) d := by
              intro d
              rw [bt_nat hlt] at h3
              have h92 : t[p] = 92 := (u8e (n := 92) (by decide)).1 h3
              rw [in_one hs hlt false (.inl (by rw [h92]; decide)), h92]
              rfl
            cases b with
            | false => exact ⟨false, q, .succ ⟨K, fun k hk => by have e := hq k hk; simp only at e; simp only [spec_reader_quoted.l0]; rw [if_pos (by omega), if_pos (by omega), if_neg h1, if_neg h2, if_pos h3, w1 (by omega), e, Option.bind_some, if_neg (by simp)]⟩, by omega, q2, fun h => by cases h⟩
            | true =>
              obtain ⟨b2, r, ⟨K2, hr⟩, r1, r2, r3⟩ := ih q (by omega) q2
              refine ⟨b2, r, .succ ⟨max K K2, fun k hk => by have e := hq k (by omega); have e2 := hr k (by omega); simp only at e e2; simp only [spec_reader_quoted.l0]; rw [if_pos (by omega), if_pos (by omega), if_neg h1, if_neg h2, if_pos h3, w1 (by omega), e, Option.bind_some, if_pos rfl, e2]⟩, by omega, r2, fun h d => (st d).trans ((q3 rfl d).trans (r3 h d))⟩
          · obtain ⟨b, q, ⟨K, hq⟩, q1, q2, q3⟩ := ih (p + 1) (by omega) (by omega)
            refine ⟨b, q, .succ ⟨K, fun k hk => by have e := hq k hk; simp only at e; simp only [spec_reader_quoted.l0]; rw [if_pos (by omega), if_pos (by omega), if_neg h1, if_neg h2, if_neg h3, w1 (by omega), e]⟩, by omega, q2, fun h d => ?_⟩
            rw [bt_nat hlt] at h1 h3
            exact (in_plain hs hlt (by omega) (by omega) d).trans (q3 h d)
    · exact ⟨false, p, .succ (.const fun k => by simp only [spec_reader_quoted.l0]; rw [if_neg (by omega)]), Nat.le_refl _, hp, fun h => by cases h⟩

theorem quoted_f {t : ByteArray} (hs : t.size ≤ 2147483647) (p : Nat) (h34 : hv t p = 34) : ∃ (b : Bool) (q : Nat), Ev (fun k => spec_reader_quoted.f k t (p : Int)) (b, t, (q : Int)) ∧ p < q ∧ q ≤ t.size ∧ (b = true → Nt t p q) := by
  obtain ⟨hlt, h3⟩ := hv_lt hs (p := p) (by omega)
  obtain ⟨b, q, hq, q1, q2, q3⟩ := quoted_l hs _ (p + 1) (Nat.le_refl _) (by omega)
  refine ⟨b, q, hq.congr fun k => by simp only [spec_reader_quoted.f]; rw [w1 (by omega)], by omega, q2, fun hb => ⟨by omega, q2, fun d _ => ?_⟩⟩
  have hc : vch t[p] = 2 := by
    have : t[p] = 34 := (u8e (n := 34) (by decide)).1 (by omega)
    rw [this]
    decide
  rw [sq_quote hlt hc, fl_low (Nat.le_refl _)]
  exact q3 hb d

/-! ### The tree -/
def Good1 (t : ByteArray) (x : S30) : Prop := (x.f0 = 5 ∨ x.f0 = 6) → ∃ b e : Nat, x.f1 = (b : Int) ∧ x.f2 = (e : Int) ∧ b < t.size ∧ b ≤ e ∧ e ≤ t.size ∧ sq (t.data.toList.drop (b + 1)) none 1 = some (t.size - e)
def KidOK (t : ByteArray) (x : S30) (n : Nat) : Prop := 1 ≤ n ∧ ∃ L, Ev (fun k => spec_All.f k x.f0 x.f1 x.f2 x.f3 x.f4) L ∧ (∀ y ∈ L, Good1 t y) ∧ L.length ≤ n
def KidsOK (t : ByteArray) : List S30 → Nat → Prop
  | [], _ => True
  | x :: r, n => ∃ a b, KidOK t x a ∧ KidsOK t r b ∧ a + b ≤ n
theorem KidsOK.app {t : ByteArray} {x : S30} {a : Nat} (hx : KidOK t x a) : ∀ {l : List S30} {n : Nat}, KidsOK t l n → KidsOK t (l ++ [x]) (n + a)
  | [], n, _ => ⟨a, 0, hx, trivial, by omega⟩
  | y :: r, n, ⟨b, c, h1, h2, h3⟩ => ⟨b, c + a, h1, KidsOK.app hx h2, by omega⟩
theorem KidsOK.len {t : ByteArray} : ∀ {l : List S30} {n : Nat}, KidsOK t l n → l.length ≤ n
  | [], n, _ => by simp
  | y :: r, n, ⟨b, c, h1, h2, h3⟩ => by have := KidsOK.len h2; have := h1.1; simp; omega
theorem rd_at {l : List S30} {i : Nat} (h : i < l.length) : rd_T30 l (i : Int) = l[i] := by
  simp [rd_T30, List.getD, h]

theorem all_l {t : ByteArray} (l : List S30) (hl : l.length ≤ 2147483648) : ∀ (n i m : Nat) (acc : List S30), l.length - i = n → i ≤ l.length → KidsOK t (l.drop i) m → acc.length + m ≤ 8589934592 → (∀ y ∈ acc, Good1 t y) →
    ∃ R, Ev (fun k => spec_All.l0 k acc l (l.length : Int) (i : Int)) R ∧ (∀ y ∈ R, Good1 t y) ∧ R.length ≤ acc.length + m := by
  intro n
  induction n with
  | zero =>
    intro i m acc hn hi hk hm hg
    exact ⟨acc, .succ (.const fun k => by simp only [spec_All.l0]; rw [if_neg (by omega)]), hg, by omega⟩
  | succ n ih =>
    intro i m acc hn hi hk hm hg
    have hlt : i < l.length := by omega
    rw [List.drop_eq_getElem_cons hlt] at hk
    obtain ⟨a, b, ⟨ha1, L, ⟨K, hL⟩, hLg, hLl⟩, hb, hab⟩ := hk
    obtain ⟨R, ⟨K2, hR⟩, hRg, hRl⟩ := ih (i + 1) b (acc ++ L) (by omega) (by omega) hb (by rw [List.length_append]; omega) (fun y hy => by
      rcases List.mem_append.1 hy with h | h
      · exact hg y h
      · exact hLg y h)
    refine ⟨R, .succ ⟨max K K2, fun k hk => ?_⟩, hRg, by rw [List.length_append] at hRl; omega⟩
    have e1 := hL k (by omega)
    have e2 := hR k (by omega)
    simp only at e1 e2
    simp only [spec_All.l0]
    rw [if_pos (by omega), if_pos (by omega), if_pos (by omega), rd_at hlt, e1, Option.bind_some, if_pos (by omega), w1 (by omega)]
    exact e2

theorem all_one {t : ByteArray} (x : S30) (m : Nat) (hk : KidsOK t x.f4 m) (hm : m ≤ 2147483648) (hx : Good1 t x) : KidOK t x (m + 1) := by
  obtain ⟨x0, x1, x2, x3, x4⟩ := x
  obtain ⟨R, hR, hRg, hRl⟩ := all_l (t := t) x4 (by have := hk.len; simp at this; omega) _ 0 m [⟨x0, x1, x2, x3, x4⟩] rfl (by omega) hk (by simp; omega) (by simpa using hx)
  exact ⟨by omega, R, .succ (hR.congr fun k => by simp only [spec_All.f]; rfl), hRg, by simpa [Nat.add_comm] using hRl⟩

/-- From i on a bracket that was opened ahead is closed, at q's end. -/
def ClosesTo (t : ByteArray) (i q : Nat) : Prop := ∀ d, sq (t.data.toList.drop i) none (d + 1) = if d = 0 then some (t.size - q) else sq (t.data.toList.drop q) none d
theorem ClosesTo.ahead {t : ByteArray} {i j q : Nat} (h : Nt t i j) (c : ClosesTo t j q) : ClosesTo t i q := fun d => (h.2.2 (d + 1) (by omega)).trans (c d)
theorem ClosesTo.mark {t : ByteArray} {i : Nat} (h : i < t.size) (hc : vch t[i] = 1) : ClosesTo t i (i + 1) := fun d => by
  rw [sq_close h hc]
  by_cases hd : d = 0
  · rw [if_pos (by omega), if_pos hd]
  · rw [if_neg (by omega), if_neg hd]
    rfl
theorem close_at {t : ByteArray} (hs : t.size ≤ 2147483647) {p : Nat} (n : Nat) (h : hv t p = (n : Int)) (hn : n = 93 ∨ n = 125) : ∃ hp : p < t.size, ClosesTo t p (p + 1) := by
  obtain ⟨hp, h2⟩ := hv_lt hs (p := p) (by omega)
  refine ⟨hp, .mark hp ?_⟩
  rcases hn with rfl | rfl
  · rw [(u8e (c := t[p]) (n := 93) (by decide)).1 (by omega)]; decide
  · rw [(u8e (c := t[p]) (n := 125) (by decide)).1 (by omega)]; decide
theorem open_at {t : ByteArray} (hs : t.size ≤ 2147483647) {p : Nat} (n : Nat) (h : hv t p = (n : Int)) (hn : n = 91 ∨ n = 123) {q : Nat} (hc : ClosesTo t (p + 1) q) (hq : p < q) (hq2 : q ≤ t.size) : Nt t p q ∧ p < t.size ∧ sq (t.data.toList.drop (p + 1)) none 1 = some (t.size - q) := by
  obtain ⟨hp, h2⟩ := hv_lt hs (p := p) (by omega)
  have hv3 : vch t[p] = 3 := by
    rcases hn with rfl | rfl
    · rw [(u8e (c := t[p]) (n := 91) (by decide)).1 (by omega)]; decide
    · rw [(u8e (c := t[p]) (n := 123) (by decide)).1 (by omega)]; decide
  refine ⟨⟨by omega, hq2, fun d hd => ?_⟩, hp, ?_⟩
  · rw [sq_open hp hv3, hc d, if_neg (by omega)]
  · rw [hc 0, if_pos rfl]

def VOK (t : ByteArray) (p : Nat) : Prop :=
  ∃ (kd : Int) (q : Nat) (nms : List S66) (ks : List S30) (ok : Bool), Ev (fun k => spec_reader_value.f k t (p : Int)) (kd, (p : Int), (q : Int), nms, ks, ok, t, (q : Int)) ∧ p ≤ q ∧ q ≤ t.size ∧
    (ok = true → p < q ∧ Nt t p q ∧ KidOK t ⟨kd, (p : Int), (q : Int), nms, ks⟩ (q - p))

theorem elems_l {t : ByteArray} (hs : t.size ≤ 2147483647) (p0 : Nat) (HV : ∀ p, p0 < p → p ≤ t.size → VOK t p) : ∀ (n i n0 : Nat) (acc : List S30), t.size - i ≤ n → p0 < i → i ≤ t.size → KidsOK t acc n0 → n0 ≤ i →
    ∃ (ks : List S30) (ok : Bool) (q : Nat), Ev (fun k => spec_reader_elements.l0 k acc t (i : Int)) (ks, ok, t, (q : Int)) ∧ i ≤ q ∧ q ≤ t.size ∧ (ok = true → i < q ∧ ClosesTo t i q ∧ ∃ m, KidsOK t ks m ∧ m + i + 1 ≤ n0 + q) := by
  intro n
  induction n with
  | zero =>
    intro i n0 acc hn hp0 hi hk hn0
    obtain ⟨kd, q, nms, ks, ok, ⟨K, hve⟩, v1, v2, v3⟩ := HV i hp0 hi
    cases ok with
    | false => exact ⟨[], false, q, .succ ⟨K, fun k hk => by have e := hve k hk; simp only at e; simp only [spec_reader_elements.l0]; rw [e, Option.bind_some, if_neg (by simp)]⟩, v1, v2, fun h => by cases h⟩
    | true => have := (v3 rfl).1; omega
  | succ n ih =>
    intro i n0 acc hn hp0 hi hk hn0
    obtain ⟨kd, q, nms, ks, ok, ⟨K, hve⟩, v1, v2, v3⟩ := HV i hp0 hi
    have hlen := hk.len
    cases ok with
    | false => exact ⟨[], false, q, .succ ⟨K, fun k hk => by have e := hve k hk; simp only at e; simp only [spec_reader_elements.l0]; rw [e, Option.bind_some, if_neg (by simp)]⟩, v1, v2, fun h => by cases h⟩
    | true =>
      obtain ⟨w1', w2, w3⟩ := v3 rfl
      obtain ⟨b1, ⟨K1, e1⟩, n1⟩ := blanks_f hs q v2
      have hk2 := KidsOK.app w3 hk
      by_cases h93 : hv t b1 = 93
      · obtain ⟨hb, hc⟩ := close_at hs 93 h93 (.inl rfl)
        refine ⟨acc ++ [⟨kd, (i : Int), (q : Int), nms, ks⟩], true, b1 + 1, .succ ⟨max K K1, fun k hk => ?_⟩, by have := n1.1; omega, by omega, fun _ => ⟨by have := n1.1; omega, ClosesTo.ahead (w2.trans n1) hc, n0 + (q - i), hk2, by have := n1.1; omega⟩⟩
        have f1 := hve k (by omega)
        have f2 := e1 k (by omega)
        simp only at f1 f2
        simp only [spec_reader_elements.l0]
        rw [f1, Option.bind_some, if_pos rfl, if_pos (by omega), Option.bind_some, f2, Option.bind_some, take_f hs b1 n1.2.1 93 (by decide), if_pos h93, Option.bind_some, if_pos rfl]
      · by_cases h44 : hv t b1 = 44
        · obtain ⟨hb, hb2⟩ := hv_lt hs (p := b1) (by omega)
          have n2 : Nt t b1 (b1 + 1) := .one hb (v0_of (by omega))
          obtain ⟨b2, ⟨K2, e2⟩, n3⟩ := blanks_f hs (b1 + 1) (by omega)
          have l1 := n1.1
          have l3 := n3.1
          obtain ⟨ks2, ok2, q2, ⟨K3, e3⟩, u1, u2, u3⟩ := ih b2 (n0 + (q - i)) (acc ++ [⟨kd, (i : Int), (q : Int), nms, ks⟩]) (by omega) (by omega) n3.2.1 hk2 (by omega)
          refine ⟨ks2, ok2, q2, .succ ⟨max (max K K1) (max K2 K3), fun k hk => ?_⟩, by omega, u2, fun h => ?_⟩
          · have f1 := hve k (by omega)
            have f2 := e1 k (by omega)
            have f3 := e2 k (by omega)
            have f4 := e3 k (by omega)
            simp only at f1 f2 f3 f4
            simp only [spec_reader_elements.l0]
            rw [f1, Option.bind_some, if_pos rfl, if_pos (by omega), Option.bind_some, f2, Option.bind_some, take_f hs b1 n1.2.1 93 (by decide), if_neg h93, Option.bind_some, if_neg (by simp), take_f hs b1 n1.2.1 44 (by decide), if_pos h44, Option.bind_some, if_pos rfl, f3, Option.bind_some, f4]
          · obtain ⟨x1, x2, m, x3, x4⟩ := u3 h
            exact ⟨by omega, ClosesTo.ahead (((w2.trans n1).trans n2).trans n3) x2, m, x3, by omega⟩
        · refine ⟨[], false, b1, .succ ⟨max K K1, fun k hk => ?_⟩, by have := n1.1; omega, n1.2.1, fun h => by cases h⟩
          have f1 := hve k (by omega)
          have f2 := e1 k (by omega)
          simp only at f1 f2
          simp only [spec_reader_elements.l0]
          rw [f1, Option.bind_some, if_pos rfl, if_pos (by omega), Option.bind_some, f2, Option.bind_some, take_f hs b1 n1.2.1 93 (by decide), if_neg h93, Option.bind_some, if_neg (by simp), take_f hs b1 n1.2.1 44 (by decide), if_neg h44, Option.bind_some, if_neg (by simp)]

theorem elems_f {t : ByteArray} (hs : t.size ≤ 2147483647) (p : Nat) (hp : p < t.size) (HV : ∀ p', p < p' → p' ≤ t.size → VOK t p') :
    ∃ (ks : List S30) (ok : Bool) (q : Nat), Ev (fun k => spec_reader_elements.f k t (p : Int)) (ks, ok, t, (q : Int)) ∧ p ≤ q ∧ q ≤ t.size ∧ (ok = true → p < q ∧ ClosesTo t (p + 1) q ∧ ∃ m, KidsOK t ks m ∧ m + p + 1 ≤ q) := by
  obtain ⟨b1, ⟨K1, e1⟩, n1⟩ := blanks_f hs (p + 1) (by omega)
  have l1 := n1.1
  by_cases h93 : hv t b1 = 93
  · obtain ⟨hb, hc⟩ := close_at hs 93 h93 (.inl rfl)
    refine ⟨[], true, b1 + 1, .succ ⟨K1, fun k hk => ?_⟩, by omega, by omega, fun _ => ⟨by omega, ClosesTo.ahead n1 hc, 0, trivial, by omega⟩⟩
    have f1 := e1 k hk
    simp only at f1
    simp only [spec_reader_elements.f]
    rw [w1 (by omega), f1, Option.bind_some, take_f hs b1 n1.2.1 93 (by decide), if_pos h93, Option.bind_some, if_pos rfl]
  · obtain ⟨ks, ok, q, ⟨K, e⟩, u1, u2, u3⟩ := elems_l hs p HV _ b1 0 [] (Nat.le_refl _) (by omega) n1.2.1 trivial (by omega)
    refine ⟨ks, ok, q, .succ ⟨max K K1, fun k hk => ?_⟩, by omega, u2, fun h => ?_⟩
    · have f1 := e1 k (by omega)
      have f2 := e k (by omega)
      simp only at f1 f2
      simp only [spec_reader_elements.f]
      rw [w1 (by omega), f1, Option.bind_some, take_f hs b1 n1.2.1 93 (by decide), if_neg h93, Option.bind_some, if_neg (by simp), f2]
    · obtain ⟨x1, x2, m, x3, x4⟩ := u3 h
      exact ⟨by omega, ClosesTo.ahead n1 x2, m, x3, by omega⟩


theorem membs_l {t : ByteArray} (hs : t.size ≤ 2147483647) (p0 : Nat) (HV : ∀ p, p0 < p → p ≤ t.size → VOK t p) : ∀ (n i n0 : Nat) (nm : List S66) (acc : List S30), t.size - i ≤ n → p0 < i → i ≤ t.size → KidsOK t acc n0 → n0 ≤ i → nm.length ≤ i →
    ∃ (nms : List S66) (ks : List S30) (ok : Bool) (q : Nat), Ev (fun k => spec_reader_members.l0 k nm acc t (i : Int)) (nms, ks, ok, t, (q : Int)) ∧ i ≤ q ∧ q ≤ t.size ∧ (ok = true → i < q ∧ ClosesTo t i q ∧ ∃ m, KidsOK t ks m ∧ m + i + 1 ≤ n0 + q) := by
  intro n
  induction n with
  | zero =>
    intro i n0 nm acc hn hp0 hi hk hn0 hnm
    have h34 : ¬ hv t i = 34 := by
      unfold hv
      rw [dif_neg (by omega)]
      decide
    refine ⟨[], [], false, i, .succ (.succ (.const fun k => ?_)), Nat.le_refl _, hi, fun h => by cases h⟩
    simp only [spec_reader_members.l0, spec_reader_members.j1]
    rw [here_f hs, Option.bind_some, if_neg h34, if_pos trivial]
  | succ n ih =>
    intro i n0 nm acc hn hp0 hi hk hn0 hnm
    have hlen := hk.len
    by_cases h34 : hv t i = 34
    · obtain ⟨bq, q0, ⟨Kq, eq0⟩, s1, s2, s3⟩ := quoted_f hs i h34
      cases bq with
      | false =>
        refine ⟨[], [], false, q0, .succ ⟨Kq + 1, fun k hk => ?_⟩, by omega, s2, fun h => by cases h⟩
        obtain ⟨k, rfl⟩ : ∃ m, k = m + 1 := ⟨k - 1, by omega⟩
        have f0 := eq0 (k + 1) (by omega)
        simp only at f0
        simp only [spec_reader_members.l0]
        rw [here_f hs, Option.bind_some, if_pos h34, f0, Option.bind_some]
        simp only [spec_reader_members.j1]
        rw [if_pos (by simp)]
      | true =>
        have nq := s3 rfl
        obtain ⟨c1, ⟨M1, d1⟩, m1⟩ := blanks_f hs q0 s2
        have lc1 := m1.1
        -- what j1 is, as far as the colon
        by_cases h58 : hv t c1 = 58
        · obtain ⟨hcl, hcl2⟩ := hv_lt hs (p := c1) (by omega)
          have m2 : Nt t c1 (c1 + 1) := .one hcl (v0_of (by omega))
          obtain ⟨c2, ⟨M2, d2⟩, m3⟩ := blanks_f hs (c1 + 1) (by omega)
          have lc3 := m3.1
          obtain ⟨kd, q, nms, ks, ok, ⟨K, hve⟩, v1, v2, v3⟩ := HV c2 (by omega) m3.2.1
          have HJ : ∀ k, max (max Kq M1) (max M2 K) ≤ k → spec_reader_members.l0 (k + 2) nm acc t (i : Int) = _ := fun k hk => by
            have f0 := eq0 (k + 1) (by omega)
            have f1 := d1 k (by omega)
            have f2 := d2 k (by omega)
            have f3 := hve k (by omega)
            simp only at f0 f1 f2 f3
            simp only [spec_reader_members.l0, spec_reader_members.j1]
            rw [here_f hs, Option.bind_some, if_pos h34, f0, Option.bind_some, if_neg (by simp), if_pos (by omega), Option.bind_some, f1, Option.bind_some, take_f hs c1 m1.2.1 58 (by decide), if_pos h58, Option.bind_some, if_pos rfl, f2, Option.bind_some, f3, Option.bind_some]
          cases ok with
          | false => exact ⟨[], [], false, q, .succ (.succ ⟨max (max Kq M1) (max M2 K), fun k hk => (HJ k hk).trans (if_neg (by simp))⟩), by omega, v2, fun h => by cases h⟩
          | true =>
            obtain ⟨w1', w2, w3⟩ := v3 rfl
            obtain ⟨b1, ⟨K1, e1⟩, n1⟩ := blanks_f hs q v2
            have l1 := n1.1
            have hk2 := KidsOK.app w3 hk
            have nall := (((nq.trans m1).trans m2).trans m3).trans (w2.trans n1)
            by_cases h93 : hv t b1 = 125
            · obtain ⟨hb, hc⟩ := close_at hs 125 h93 (.inr rfl)
              refine ⟨nm ++ [⟨(i : Int), (q0 : Int)⟩], acc ++ [⟨kd, (c2 : Int), (q : Int), nms, ks⟩], true, b1 + 1, .succ (.succ ⟨max (max (max Kq M1) (max M2 K)) K1, fun k hk => (HJ k (by omega)).trans ?_⟩), by omega, by omega, fun _ => ⟨by omega, ClosesTo.ahead nall hc, n0 + (q - c2), hk2, by omega⟩⟩
              have f2 := e1 k (by omega)
              simp only at f2
              rw [if_pos rfl, if_pos (by omega), Option.bind_some, f2, Option.bind_some, take_f hs b1 n1.2.1 125 (by decide), if_pos h93, Option.bind_some, if_pos rfl]
            · by_cases h44 : hv t b1 = 44
              · obtain ⟨hb, hb2⟩ := hv_lt hs (p := b1) (by omega)
                have n2 : Nt t b1 (b1 + 1) := .one hb (v0_of (by omega))
                obtain ⟨b2, ⟨K2, e2⟩, n3⟩ := blanks_f hs (b1 + 1) (by omega)
                have l3 := n3.1
                obtain ⟨nm2, ks2, ok2, q2, ⟨K3, e3⟩, u1, u2, u3⟩ := ih b2 (n0 + (q - c2)) (nm ++ [⟨(i : Int), (q0 : Int)⟩]) (acc ++ [⟨kd, (c2 : Int), (q : Int), nms, ks⟩]) (by omega) (by omega) n3.2.1 hk2 (by omega) (by simp; omega)
                refine ⟨nm2, ks2, ok2, q2, .succ (.succ ⟨max (max (max Kq M1) (max M2 K)) (max K1 (max K2 K3)), fun k hk => (HJ k (by omega)).trans ?_⟩), by omega, u2, fun h => ?_⟩
                · have f2 := e1 k (by omega)
                  have f3 := e2 k (by omega)
                  have f4 := e3 k (by omega)
                  simp only at f2 f3 f4
                  rw [if_pos rfl, if_pos (by omega), Option.bind_some, f2, Option.bind_some, take_f hs b1 n1.2.1 125 (by decide), if_neg h93, Option.bind_some, if_neg (by simp), take_f hs b1 n1.2.1 44 (by decide), if_pos h44, Option.bind_some, if_pos rfl, f3, Option.bind_some, f4]
                · obtain ⟨x1, x2, m, x3, x4⟩ := u3 h
                  exact ⟨by omega, ClosesTo.ahead ((nall.trans n2).trans n3) x2, m, x3, by omega⟩
              · refine ⟨[], [], false, b1, .succ (.succ ⟨max (max (max Kq M1) (max M2 K)) K1, fun k hk => (HJ k (by omega)).trans ?_⟩), by omega, n1.2.1, fun h => by cases h⟩
                have f2 := e1 k (by omega)
                simp only at f2
                rw [if_pos rfl, if_pos (by omega), Option.bind_some, f2, Option.bind_some, take_f hs b1 n1.2.1 125 (by decide), if_neg h93, Option.bind_some, if_neg (by simp), take_f hs b1 n1.2.1 44 (by decide), if_neg h44, Option.bind_some, if_neg (by simp)]
        · refine ⟨[], [], false, c1, .succ (.succ ⟨max Kq M1, fun k hk => ?_⟩), by omega, m1.2.1, fun h => by cases h⟩
          have f0 := eq0 (k + 1) (by omega)
          have f1 := d1 k (by omega)
          simp only at f0 f1
          simp only [spec_reader_members.l0, spec_reader_members.j1]
          rw [here_f hs, Option.bind_some, if_pos h34, f0, Option.bind_some, if_neg (by simp), if_pos (by omega), Option.bind_some, f1, Option.bind_some, take_f hs c1 m1.2.1 58 (by decide), if_neg h58, Option.bind_some, if_neg (by simp)]
    · refine ⟨[], [], false, i, .succ (.succ (.const fun k => ?_)), Nat.le_refl _, hi, fun h => by cases h⟩
      simp only [spec_reader_members.l0, spec_reader_members.j1]
      rw [here_f hs, Option.bind_some, if_neg h34, if_pos trivial]

theorem membs_f {t : ByteArray} (hs : t.size ≤ 2147483647) (p : Nat) (hp : p < t.size) (HV : ∀ p', p < p' → p' ≤ t.size → VOK t p') :
    ∃ (nms : List S66) (ks : List S30) (ok : Bool) (q : Nat), Ev (fun k => spec_reader_members.f k t (p : Int)) (nms, ks, ok, t, (q : Int)) ∧ p ≤ q ∧ q ≤ t.size ∧ (ok = true → p < q ∧ ClosesTo t (p + 1) q ∧ ∃ m, KidsOK t ks m ∧ m + p + 1 ≤ q) := by
  obtain ⟨b1, ⟨K1, e1⟩, n1⟩ := blanks_f hs (p + 1) (by omega)
  have l1 := n1.1
  by_cases h93 : hv t b1 = 125
  · obtain ⟨hb, hc⟩ := close_at hs 125 h93 (.inr rfl)
    refine ⟨[], [], true, b1 + 1, .succ ⟨K1, fun k hk => ?_⟩, by omega, by omega, fun _ => ⟨by omega, ClosesTo.ahead n1 hc, 0, trivial, by omega⟩⟩
    have f1 := e1 k hk
    simp only at f1
    simp only [spec_reader_members.f]
    rw [w1 (by omega), f1, Option.bind_some, take_f hs b1 n1.2.1 125 (by decide), if_pos h93, Option.bind_some, if_pos rfl]
  · obtain ⟨nms, ks, ok, q, ⟨K, e⟩, u1, u2, u3⟩ := membs_l hs p HV _ b1 0 [] [] (Nat.le_refl _) (by omega) n1.2.1 trivial (by omega) (by simp)
    refine ⟨nms, ks, ok, q, .succ ⟨max K K1, fun k hk => ?_⟩, by omega, u2, fun h => ?_⟩
    · have f1 := e1 k (by omega)
      have f2 := e k (by omega)
      simp only at f1 f2
      simp only [spec_reader_members.f]
      rw [w1 (by omega), f1, Option.bind_some, take_f hs b1 n1.2.1 125 (by decide), if_neg h93, Option.bind_some, if_neg (by simp), f2]
    · obtain ⟨x1, x2, m, x3, x4⟩ := u3 h
      exact ⟨by omega, ClosesTo.ahead n1 x2, m, x3, by omega⟩

theorem KidOK.le {t : ByteArray} (hs : t.size ≤ 2147483647) {x : S30} {a b : Nat} (h : KidOK t x a) (hab : a ≤ b) : KidOK t x b := by
  obtain ⟨h1, L, h2, h3, h4⟩ := h
  exact ⟨by omega, L, h2, h3, by omega⟩

theorem value_j0 {t : ByteArray} (hs : t.size ≤ 2147483647) (p : Nat) (hp : p ≤ t.size) (x : Bool) (hx : x = true → hv t p = 45 ∨ (48 ≤ hv t p ∧ hv t p ≤ 57)) :
    ∃ (kd : Int) (q : Nat) (ok : Bool), Ev (fun k => spec_reader_value.j0 k true x t (p : Int) 0 (p : Int) 0) (kd, (p : Int), (q : Int), [], [], ok, t, (q : Int)) ∧ Nt t p q ∧ (kd ≠ 5 ∧ kd ≠ 6) ∧ (ok = true → p < q) := by
  cases x with
  | true =>
    obtain ⟨b, q, ⟨K, e⟩, n1, g1⟩ := number_f hs p hp (hx rfl)
    exact ⟨3, q, b, .succ ⟨K, fun k hk => by have f := e k hk; simp only at f; simp only [spec_reader_value.j0]; rw [if_pos trivial, f, Option.bind_some]⟩, n1, by decide, fun _ => g1⟩
  | false =>
    obtain ⟨b1, q1, e1, n1, g1⟩ := word_f hs p hp (⟨#[110, 117, 108, 108]⟩ : ByteArray) (by decide) (by decide)
    have l1 := n1.1
    cases b1 with
    | true => exact ⟨0, q1, true, .succ (.const fun k => by simp only [spec_reader_value.j0]; rw [if_neg (by decide), e1, Option.bind_some, if_pos rfl]), n1, by decide, fun _ => by have := g1 rfl; rw [show (⟨#[110, 117, 108, 108]⟩ : ByteArray).size = 4 from rfl] at this; omega⟩
    | false =>
      obtain ⟨b2, q2, e2, n2, g2⟩ := word_f hs q1 n1.2.1 (⟨#[102, 97, 108, 115, 101]⟩ : ByteArray) (by decide) (by decide)
      have l2 := n2.1
      cases b2 with
      | true => exact ⟨1, q2, true, .succ (.const fun k => by simp only [spec_reader_value.j0]; rw [if_neg (by decide), e1, Option.bind_some, if_neg (by simp), e2, Option.bind_some, if_pos rfl]), n1.trans n2, by decide, fun _ => by have := g2 rfl; rw [show (⟨#[102, 97, 108, 115, 101]⟩ : ByteArray).size = 5 from rfl] at this; omega⟩
      | false =>
        obtain ⟨b3, q3, e3, n3, g3⟩ := word_f hs q2 n2.2.1 (⟨#[116, 114, 117, 101]⟩ : ByteArray) (by decide) (by decide)
        cases b3 with
        | true => exact ⟨2, q3, true, .succ (.const fun k => by simp only [spec_reader_value.j0]; rw [if_neg (by decide), e1, Option.bind_some, if_neg (by simp), e2, Option.bind_some, if_neg (by simp), e3, Option.bind_some, if_pos rfl]), (n1.trans n2).trans n3, by decide, fun _ => by have := g3 rfl; rw [show (⟨#[116, 114, 117, 101]⟩ : ByteArray).size = 4 from rfl] at this; omega⟩
        | false => exact ⟨0, q3, false, .succ (.const fun k => by simp only [spec_reader_value.j0]; rw [if_neg (by decide), e1, Option.bind_some, if_neg (by simp), e2, Option.bind_some, if_neg (by simp), e3, Option.bind_some, if_neg (by simp)]), (n1.trans n2).trans n3, by decide, fun h => by cases h⟩

theorem value_ok {t : ByteArray} (hs : t.size ≤ 2147483647) : ∀ (n p : Nat), t.size - p ≤ n → p ≤ t.size → VOK t p := by
  intro n
  induction n using Nat.strongRecOn with
  | _ n ih =>
  intro p hn hp
  have HV : p < t.size → ∀ p', p < p' → p' ≤ t.size → VOK t p' := fun hlt p' h1 h2 => ih (t.size - p') (by omega) p' (Nat.le_refl _) h2
  by_cases h123 : hv t p = 123
  · obtain ⟨hlt, _⟩ := hv_lt hs (p := p) (by omega)
    obtain ⟨nms, ks, ok, q, ⟨K, e⟩, u1, u2, u3⟩ := membs_f hs p hlt (HV hlt)
    refine ⟨6, q, nms, ks, ok, .succ ⟨K, fun k hk => ?_⟩, u1, u2, fun h => ?_⟩
    · have f := e k hk
      simp only at f
      simp only [spec_reader_value.f]
      rw [here_f hs, Option.bind_some, if_pos h123, f, Option.bind_some]
    · obtain ⟨x1, x2, m, x3, x4⟩ := u3 h
      obtain ⟨y1, y2, y3⟩ := open_at hs 123 h123 (.inr rfl) x2 x1 u2
      exact ⟨x1, y1, KidOK.le hs (all_one _ m x3 (by omega) fun _ => ⟨p, q, rfl, rfl, y2, u1, u2, y3⟩) (by omega)⟩
  · by_cases h91 : hv t p = 91
    · obtain ⟨hlt, _⟩ := hv_lt hs (p := p) (by omega)
      obtain ⟨ks, ok, q, ⟨K, e⟩, u1, u2, u3⟩ := elems_f hs p hlt (HV hlt)
      refine ⟨5, q, [], ks, ok, .succ ⟨K, fun k hk => ?_⟩, u1, u2, fun h => ?_⟩
      · have f := e k hk
        simp only at f
        simp only [spec_reader_value.f]
        rw [here_f hs, Option.bind_some, if_neg h123, if_pos h91, f, Option.bind_some]
      · obtain ⟨x1, x2, m, x3, x4⟩ := u3 h
        obtain ⟨y1, y2, y3⟩ := open_at hs 91 h91 (.inl rfl) x2 x1 u2
        exact ⟨x1, y1, KidOK.le hs (all_one _ m x3 (by omega) fun _ => ⟨p, q, rfl, rfl, y2, u1, u2, y3⟩) (by omega)⟩
    · by_cases h34 : hv t p = 34
      · obtain ⟨b, q, ⟨K, e⟩, u1, u2, u3⟩ := quoted_f hs p h34
        refine ⟨4, q, [], [], b, .succ ⟨K, fun k hk => ?_⟩, by omega, u2, fun h => ?_⟩
        · have f := e k hk
          simp only at f
          simp only [spec_reader_value.f]
          rw [here_f hs, Option.bind_some, if_neg h123, if_neg h91, if_pos h34, f, Option.bind_some]
        · exact ⟨u1, u3 h, KidOK.le hs (all_one ⟨4, _, _, [], []⟩ 0 trivial (by omega) (fun h => by rcases h with h | h <;> simp at h)) (by omega)⟩
      · have fin : ∀ x : Bool, (x = true → hv t p = 45 ∨ (48 ≤ hv t p ∧ hv t p ≤ 57)) → (∀ k, spec_reader_value.f (k + 1) t (p : Int) = spec_reader_value.j0 k true x t (p : Int) 0 (p : Int) 0) → VOK t p := by
          intro x hx he
          obtain ⟨kd, q, ok, e, n1, g1, g2⟩ := value_j0 hs p hp x hx
          refine ⟨kd, q, [], [], ok, .succ (e.congr he), n1.1, n1.2.1, fun h => ⟨g2 h, n1, ?_⟩⟩
          have := g2 h
          exact KidOK.le hs (all_one ⟨kd, _, _, [], []⟩ 0 trivial (by omega) (fun h => by
            rcases h with h | h
            · exact absurd h g1.1
            · exact absurd h g1.2)) (by omega)
        have hu : ∀ k, spec_reader_value.f (k + 1) t (p : Int) = _ := fun k => by
          simp only [spec_reader_value.f]
          rw [here_f hs, Option.bind_some, if_neg h123, if_neg h91, if_neg h34]
        by_cases h45 : hv t p = 45
        · exact fin true (fun _ => .inl h45) fun k => by rw [hu k, if_pos h45]
        · by_cases h48 : 48 ≤ hv t p
          · exact fin (decide (hv t p ≤ 57)) (fun h => .inr ⟨h48, of_decide_eq_true h⟩) fun k => by rw [hu k, if_neg h45, if_pos h48]
          · exact fin false (fun h => by cases h) fun k => by rw [hu k, if_neg h45, if_neg h48]

/-- spec.Places, of the reader's list functions. -/
def placesF (k : Nat) (a0 : ByteArray) : Option (Int × Int × Int × (List (S66)) × (List (S30)) × Bool) :=
  (spec_reader_blanks.f k a0 0).bind fun b1 => ((spec_reader_value.f k b1.1 b1.2).bind fun v => (if v.2.2.2.2.2.1 = true then ((spec_reader_blanks.f k v.2.2.2.2.2.2.1 v.2.2.2.2.2.2.2).bind fun b2 => (if b2.2 = (a0.size : Int) then (some (v.1, v.2.1, v.2.2.1, v.2.2.2.1, v.2.2.2.2.1, true)) else (some (0, 0, 0, ([] : List (S66)), ([] : List (S30)), false)))) else (some (0, 0, 0, ([] : List (S66)), ([] : List (S30)), false))))

theorem places_ok (t : ByteArray) (hs : t.size ≤ 2147483647) : ∃ (k : Nat) (r1 r2 r3 : Int) (r4 : List S66) (r5 : List S30) (r6 : Bool), placesF k t = some (r1, r2, r3, r4, r5, r6) ∧
    (r6 = true → ∃ L, spec_All.f k r1 r2 r3 r4 r5 = some L ∧ ∀ y ∈ L, Good1 t y) := by
  obtain ⟨q0, ⟨K0, e0⟩, n0⟩ := blanks_f hs 0 (by omega)
  obtain ⟨kd, q, nms, ks, ok, ⟨K1, e1⟩, v1, v2, v3⟩ := value_ok hs _ q0 (Nat.le_refl _) n0.2.1
  cases ok with
  | false =>
    refine ⟨max K0 K1, 0, 0, 0, [], [], false, ?_, fun h => by cases h⟩
    have f0 := e0 (max K0 K1) (by omega)
    have f1 := e1 (max K0 K1) (by omega)
    simp only at f0 f1
    simp only [placesF]
    rw [show (0 : Int) = ((0 : Nat) : Int) from rfl, f0, Option.bind_some, f1, Option.bind_some, if_neg (by simp)]
  | true =>
    obtain ⟨x1, x2, x3, L, ⟨K2, e2⟩, g1, _⟩ := v3 rfl
    obtain ⟨q3, ⟨K3, e3⟩, n3⟩ := blanks_f hs q v2
    by_cases hq : ((q3 : Nat) : Int) = (t.size : Int)
    · refine ⟨max (max K0 K1) (max K2 K3), kd, (q0 : Int), (q : Int), nms, ks, true, ?_, fun _ => ⟨L, e2 _ (by omega), g1⟩⟩
      have f0 := e0 (max (max K0 K1) (max K2 K3)) (by omega)
      have f1 := e1 (max (max K0 K1) (max K2 K3)) (by omega)
      have f3 := e3 (max (max K0 K1) (max K2 K3)) (by omega)
      simp only at f0 f1 f3
      simp only [placesF]
      rw [show (0 : Int) = ((0 : Nat) : Int) from rfl, f0, Option.bind_some, f1, Option.bind_some, if_pos rfl, f3, Option.bind_some, if_pos hq]
    · refine ⟨max (max K0 K1) (max K2 K3), 0, 0, 0, [], [], false, ?_, fun h => by cases h⟩
      have f0 := e0 (max (max K0 K1) (max K2 K3)) (by omega)
      have f1 := e1 (max (max K0 K1) (max K2 K3)) (by omega)
      have f3 := e3 (max (max K0 K1) (max K2 K3)) (by omega)
      simp only at f0 f1 f3
      simp only [placesF]
      rw [show (0 : Int) = ((0 : Nat) : Int) from rfl, f0, Option.bind_some, f1, Option.bind_some, if_pos rfl, f3, Option.bind_some, if_neg hq]
end Go.Proofs.YtifcmhekpbfboaaDoor.Pure
