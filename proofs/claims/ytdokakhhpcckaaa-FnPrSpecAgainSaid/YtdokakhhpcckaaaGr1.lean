/- What spec's reader reads, told in the grammar: the printed list functions of the reader tell 'ok' just behind a value of the grammar, and its places are the value's. Condition: the text takes at most 2^31 - 1 bytes. MFnPrSpecAgain: the namespace of the print, MFnPrSpecAgain5: its text, S52, S36: the printed types of spans and places. -/
import Derived.Test.YtdokakhhpcckaaaMFnPrSpecAgain5
import Derived.Test.YtdokakhhpcckaaaGr0
namespace Go.Proofs.Ytdokakhhpcckaaa.Pure
set_option linter.unusedVariables false
open Go.RowKit Go.Proofs.Ytdokakhhpcckaaa Go.Proofs.Ytdokakhhpcckaaa.MFnPrSpecAgain Go.Proofs.YtdokakhhpcckaaaW.PrintWords Go.Proofs.YtdokakhhpcckaaaW.PrintLast

def Ev {α : Type} (f : Nat → Option α) (r : α) : Prop := ∃ K, ∀ k, K ≤ k → f k = some r
theorem Ev.const {α : Type} {f : Nat → Option α} {r : α} (h : ∀ k, f k = some r) : Ev f r := ⟨0, fun k _ => h k⟩
theorem Ev.succ {α : Type} {f : Nat → Option α} {r : α} (h : Ev (fun k => f (k + 1)) r) : Ev f r := by
  obtain ⟨K, h⟩ := h
  refine ⟨K + 1, fun k hk => ?_⟩
  obtain ⟨m, rfl⟩ : ∃ m, k = m + 1 := ⟨k - 1, by omega⟩
  exact h m (by omega)
theorem Ev.congr {α : Type} {f g : Nat → Option α} {r : α} (h : Ev g r) (e : ∀ k, f k = g k) : Ev f r := by
  obtain ⟨K, h⟩ := h
  exact ⟨K, fun k hk => (e k).trans (h k hk)⟩

theorem w64 {n : Int} (h : 0 ≤ n) (h2 : n ≤ 9223372036854775807) : wrap64 n = n := by unfold wrap64; omega
theorem w1 {p : Nat} (h : p ≤ 4294967296) : wrap64 ((p : Int) + 1) = ((p + 1 : Nat) : Int) := by rw [w64 (by omega) (by omega)]; omega
theorem bt_nat {s : ByteArray} {i : Nat} (h : i < s.size) : bt s (i : Int) = ((s[i]).toNat : Int) := by
  unfold bt
  rw [dif_pos (by simpa using h)]
  simp
theorem u8e {c : UInt8} {n : Nat} (hn : n < 256) : ((c.toNat : Int) = (n : Int)) ↔ c = UInt8.ofNat n := by
  constructor
  · intro h
    apply UInt8.toNat_inj.1
    rw [UInt8.toNat_ofNat_of_lt' (by simpa using hn)]
    omega
  · rintro rfl
    rw [UInt8.toNat_ofNat_of_lt' (by simpa using hn)]

/-- The text's rest from place p on. -/
def L (t : ByteArray) (p : Nat) : List UInt8 := t.data.toList.drop p
theorem L_len (t : ByteArray) (p : Nat) : (L t p).length = t.size - p := by
  unfold L
  rw [List.length_drop, Array.length_toList]
  rfl
theorem L_cons {t : ByteArray} {p : Nat} (h : p < t.size) : L t p = t[p] :: L t (p + 1) := by
  unfold L
  have hl : p < t.data.toList.length := by rw [Array.length_toList]; exact h
  rw [List.drop_eq_getElem_cons hl]
  rfl
theorem L_nil {t : ByteArray} {p : Nat} (h : ¬ p < t.size) : L t p = [] := by
  apply List.eq_nil_of_length_eq_zero
  rw [L_len]
  omega
theorem L_pos (t : ByteArray) {p : Nat} (h : p ≤ t.size) : posL t.size (L t p) = p := by
  unfold posL
  rw [L_len]
  omega

theorem blank_f (c : UInt8) : spec_Blank.f (c.toNat : Int) = some (blk c) := by
  unfold spec_Blank.f
  have key : ∀ n : Nat, n < 256 → ((c.toNat : Int) = (n : Int)) = (c = UInt8.ofNat n) := fun n hn => propext (u8e hn)
  have k1 : ((c.toNat : Int) = 32) = (c = 32) := key 32 (by decide)
  have k2 : ((c.toNat : Int) = 9) = (c = 9) := key 9 (by decide)
  have k3 : ((c.toNat : Int) = 10) = (c = 10) := key 10 (by decide)
  have k4 : ((c.toNat : Int) = 13) = (c = 13) := key 13 (by decide)
  by_cases h1 : c = 32
  · rw [if_pos (k1.symm ▸ h1)]; simp [blk, h1]
  · rw [if_neg (fun h => h1 (k1 ▸ h))]
    by_cases h2 : c = 9
    · rw [if_pos (k2.symm ▸ h2)]; simp [blk, h2]
    · rw [if_neg (fun h => h2 (k2 ▸ h))]
      by_cases h3 : c = 10
      · rw [if_pos (k3.symm ▸ h3)]; simp [blk, h3]
      · rw [if_neg (fun h => h3 (k3 ▸ h))]
        congr 1
        by_cases h4 : c = 13
        · simp [blk, h4]
        · have : ((c.toNat : Int) == 13) = false := by
            rw [beq_eq_false_iff_ne]
            exact fun h => h4 (k4 ▸ h)
          rw [this]
          simp [blk, h1, h2, h3, h4]

theorem blanks_l {t : ByteArray} (hs : t.size ≤ 2147483647) : ∀ (n p : Nat), t.size - p = n → p ≤ t.size → ∃ q : Nat, Ev (fun k => spec_reader_blanks.l0 k t (p : Int)) (t, (q : Int)) ∧ (p ≤ q ∧ q ≤ t.size) ∧ L t q = wsL (L t p) := by
  intro n
  induction n with
  | zero =>
    intro p hn hp
    refine ⟨p, .succ (.const fun k => by simp only [spec_reader_blanks.l0]; rw [if_neg (by omega)]), ⟨Nat.le_refl _, hp⟩, ?_⟩
    rw [L_nil (by omega)]
    rfl
  | succ n ih =>
    intro p hn hp
    have hlt : p < t.size := by omega
    have hb := blank_f t[p]
    rw [← bt_nat hlt] at hb
    cases hbb : blk t[p] with
    | false =>
      rw [hbb] at hb
      refine ⟨p, .succ (.const fun k => by simp only [spec_reader_blanks.l0]; rw [if_pos (by omega), if_pos (by omega), hb]; rfl), ⟨Nat.le_refl _, hp⟩, ?_⟩
      rw [L_cons hlt, wsL_of hbb]
    | true =>
      rw [hbb] at hb
      obtain ⟨q, hq, hN, hL⟩ := ih (p + 1) (by omega) (by omega)
      refine ⟨q, .succ (hq.congr fun k => by simp only [spec_reader_blanks.l0]; rw [if_pos (by omega), if_pos (by omega), hb, w1 (by omega)]; rfl), ⟨by omega, hN.2⟩, ?_⟩
      rw [L_cons hlt, hL]
      rw [wsL_cons]
      rw [if_pos hbb]
theorem blanks_f {t : ByteArray} (hs : t.size ≤ 2147483647) (p : Nat) (hp : p ≤ t.size) : ∃ q : Nat, Ev (fun k => spec_reader_blanks.f k t (p : Int)) (t, (q : Int)) ∧ (p ≤ q ∧ q ≤ t.size) ∧ L t q = wsL (L t p) := blanks_l hs _ p rfl hp

/-- The byte at p, 0 at the end. -/
def hv (t : ByteArray) (p : Nat) : Int := if h : p < t.size then ((t[p]).toNat : Int) else 0
theorem here_f {t : ByteArray} (hs : t.size ≤ 2147483647) (p : Nat) : spec_reader_here.f t (p : Int) = some (hv t p, t, (p : Int)) := by
  unfold spec_reader_here.f hv
  by_cases h : p < t.size
  · rw [if_pos (by omega), if_pos (by omega), dif_pos h, bt_nat h]
  · rw [if_neg (by omega), dif_neg h]
theorem hv_lt {t : ByteArray} {p : Nat} (h : hv t p ≠ 0) : ∃ hp : p < t.size, hv t p = ((t[p]).toNat : Int) := by
  unfold hv at h ⊢
  by_cases hp : p < t.size
  · exact ⟨hp, by rw [dif_pos hp]⟩
  · rw [dif_neg hp] at h
    exact absurd rfl h
theorem hv_L {t : ByteArray} {p : Nat} (n : Nat) (hn : 0 < n ∧ n < 256) (h : hv t p = (n : Int)) : p < t.size ∧ L t p = UInt8.ofNat n :: L t (p + 1) := by
  obtain ⟨hp, h2⟩ := hv_lt (t := t) (p := p) (by omega)
  refine ⟨hp, ?_⟩
  rw [L_cons hp, (u8e hn.2).1 (h2.symm.trans h)]
theorem hv_ne {t : ByteArray} {p : Nat} (n : Nat) (hn : 0 < n ∧ n < 256) (h : ¬ hv t p = (n : Int)) : ∀ l, L t p ≠ UInt8.ofNat n :: l := by
  intro l e
  apply h
  have hp : p < t.size := by
    apply Classical.byContradiction
    intro hp
    rw [L_nil hp] at e
    cases e
  rw [L_cons hp] at e
  unfold hv
  rw [dif_pos hp]
  exact (u8e hn.2).2 (List.cons.inj e).1

theorem take_f {t : ByteArray} (hs : t.size ≤ 2147483647) (p : Nat) (hp : p ≤ t.size) (c : Int) (hc : c ≠ 0) : spec_reader_take.f t (p : Int) c = some (if hv t p = c then (true, t, ((p + 1 : Nat) : Int)) else (false, t, (p : Int))) := by
  unfold spec_reader_take.f hv
  by_cases h : p < t.size
  · rw [if_pos (by omega), if_pos (by omega), dif_pos h, bt_nat h]
    by_cases hq : ((t[p]).toNat : Int) = c
    · rw [if_pos hq, if_pos hq, w1 (by omega)]
    · rw [if_neg hq, if_neg hq]
  · rw [if_neg (by omega), dif_neg h, if_neg (fun e => hc e.symm)]

theorem dgt_hv {t : ByteArray} {p : Nat} (hp : p < t.size) : dgt t[p] = true ↔ (48 ≤ hv t p ∧ hv t p ≤ 57) := by
  unfold dgt hv
  rw [dif_pos hp]
  simp
  omega

theorem digits_l {t : ByteArray} (hs : t.size ≤ 2147483647) (x3 : Int) : ∀ (n p : Nat), t.size - p = n → p ≤ t.size → ∃ q : Nat, Ev (fun k => spec_reader_digits.l0 k x3 (hv t p) t (p : Int)) (decide ((q : Int) > x3), t, (q : Int)) ∧ (p ≤ q ∧ q ≤ t.size) ∧ L t q = dgs (L t p) := by
  intro n
  induction n with
  | zero =>
    intro p hn hp
    have h0 : hv t p = 0 := by unfold hv; rw [dif_neg (by omega)]
    refine ⟨p, .succ (.const fun k => by simp only [spec_reader_digits.l0, h0]; rw [if_neg (by decide)]), ⟨Nat.le_refl _, hp⟩, ?_⟩
    rw [L_nil (by omega)]
    rfl
  | succ n ih =>
    intro p hn hp
    have hlt : p < t.size := by omega
    have hd := dgt_hv hlt
    have stop : ¬ (dgt t[p] = true) → dgs (L t p) = L t p := by
      intro h
      rw [L_cons hlt]
      rw [dgs_cons]
      rw [if_neg h]
    by_cases h1 : 48 ≤ hv t p
    · by_cases h2 : hv t p ≤ 57
      · obtain ⟨q, hq, hN, hL⟩ := ih (p + 1) (by omega) (by omega)
        refine ⟨q, .succ (hq.congr fun k => by simp only [spec_reader_digits.l0]; rw [if_pos h1, if_pos h2, w1 (by omega), here_f hs]; rfl), ⟨by omega, hN.2⟩, ?_⟩
        rw [hL, L_cons hlt]
        rw [dgs_cons]
        rw [if_pos (hd.2 ⟨h1, h2⟩)]
      · exact ⟨p, .succ (.const fun k => by simp only [spec_reader_digits.l0]; rw [if_pos h1, if_neg h2]), ⟨Nat.le_refl _, hp⟩, (stop fun h => h2 (hd.1 h).2).symm⟩
    · exact ⟨p, .succ (.const fun k => by simp only [spec_reader_digits.l0]; rw [if_neg h1]), ⟨Nat.le_refl _, hp⟩, (stop fun h => h1 (hd.1 h).1).symm⟩
theorem digits_f {t : ByteArray} (hs : t.size ≤ 2147483647) (p : Nat) (hp : p ≤ t.size) : ∃ (b : Bool) (q : Nat), Ev (fun k => spec_reader_digits.f k t (p : Int)) (b, t, (q : Int)) ∧ (p ≤ q ∧ q ≤ t.size) ∧ dg1 (L t p) = (if b = true then some (L t q) else none) := by
  obtain ⟨q, hq, hN, hL⟩ := digits_l hs (p : Int) _ p rfl hp
  refine ⟨_, q, hq.congr fun k => by simp only [spec_reader_digits.f]; rw [here_f hs]; rfl, hN, ?_⟩
  by_cases hlt : p < t.size
  · rw [L_cons hlt] at hL ⊢
    rw [dg1_cons]
    by_cases hd : dgt t[p] = true
    · rw [if_pos hd]
      rw [dgs_cons] at hL
      rw [if_pos hd] at hL
      have hlen := congrArg List.length hL
      have h1 := dgs_le (L t (p + 1))
      rw [L_len] at hlen h1
      rw [if_pos (decide_eq_true (by omega)), hL]
    · rw [if_neg hd]
      rw [dgs_cons] at hL
      rw [if_neg hd, ← L_cons hlt] at hL
      have hlen := congrArg List.length hL
      rw [L_len, L_len] at hlen
      rw [if_neg (by rw [decide_eq_true_eq]; omega)]
  · rw [L_nil hlt]
    rw [if_neg (by rw [decide_eq_true_eq]; omega)]
    rfl

theorem take_sgn {t : ByteArray} (p : Nat) (h43 : ¬ hv t p = 43) : sgnL (L t p) = if hv t p = 45 then L t (p + 1) else L t p := by
  by_cases h : hv t p = 45
  · rw [if_pos h, (hv_L 45 (by decide) h).2]
    rfl
  · rw [if_neg h]
    have a := hv_ne 43 (by decide) h43
    have b := hv_ne 45 (by decide) h
    cases hl : L t p with
    | nil => rfl
    | cons c l =>
      rw [sgnL_cons]
      rw [if_neg (fun e => a l (by rw [hl, e]; rfl)), if_neg (fun e => b l (by rw [hl, e]; rfl))]

theorem num_j2t {t : ByteArray} (hs : t.size ≤ 2147483647) (p : Nat) (hp : p ≤ t.size) : ∃ (b : Bool) (q : Nat), Ev (fun k => spec_reader_number.j2 k true t (p : Int)) (b, t, (q : Int)) ∧ (p ≤ q ∧ q ≤ t.size) ∧ dg1 (sgnL (L t p)) = (if b = true then some (L t q) else none) := by
  by_cases h43 : hv t p = 43
  · obtain ⟨hlt, hL⟩ := hv_L 43 (by decide) h43
    obtain ⟨b2, q2, ⟨K, e2⟩, n2, d2⟩ := digits_f hs (p + 1) (by omega)
    refine ⟨b2, q2, .succ ⟨K, fun k hk => by have e3 := e2 k hk; simp only at e3; simp only [spec_reader_number.j2]; rw [if_pos trivial, take_f hs p hp 43 (by decide), if_pos h43, Option.bind_some, if_pos rfl, e3]; rfl⟩, by omega, ?_⟩
    rw [hL]
    exact d2
  · have hsg := take_sgn (t := t) p h43
    by_cases h45 : hv t p = 45
    · obtain ⟨hlt, hL⟩ := hv_L 45 (by decide) h45
      obtain ⟨b2, q2, ⟨K, e2⟩, n2, d2⟩ := digits_f hs (p + 1) (by omega)
      rw [if_pos h45] at hsg
      exact ⟨b2, q2, .succ ⟨K, fun k hk => by have e3 := e2 k hk; simp only at e3; simp only [spec_reader_number.j2]; rw [if_pos trivial, take_f hs p hp 43 (by decide), if_neg h43, Option.bind_some, if_neg (by simp), take_f hs p hp 45 (by decide), if_pos h45, Option.bind_some, e3]; rfl⟩, by omega, by rw [hsg]; exact d2⟩
    · obtain ⟨b2, q2, ⟨K, e2⟩, n2, d2⟩ := digits_f hs p hp
      rw [if_neg h45] at hsg
      exact ⟨b2, q2, .succ ⟨K, fun k hk => by have e3 := e2 k hk; simp only at e3; simp only [spec_reader_number.j2]; rw [if_pos trivial, take_f hs p hp 43 (by decide), if_neg h43, Option.bind_some, if_neg (by simp), take_f hs p hp 45 (by decide), if_neg h45, Option.bind_some, e3]; rfl⟩, n2, by rw [hsg]; exact d2⟩
theorem num_j1f {t : ByteArray} (hs : t.size ≤ 2147483647) (p : Nat) (hp : p ≤ t.size) : ∃ (b : Bool) (q : Nat), Ev (fun k => spec_reader_number.j1 k false t (p : Int)) (b, t, (q : Int)) ∧ (p ≤ q ∧ q ≤ t.size) ∧ expL (L t p) = (if b = true then some (L t q) else none) := by
  by_cases h101 : hv t p = 101
  · obtain ⟨hlt, hL⟩ := hv_L 101 (by decide) h101
    obtain ⟨b2, q2, ⟨K, e2⟩, n2, d2⟩ := num_j2t hs (p + 1) (by omega)
    refine ⟨b2, q2, .succ ⟨K, fun k hk => by have e3 := e2 k hk; simp only at e3; simp only [spec_reader_number.j1]; rw [if_neg (by decide), take_f hs p hp 101 (by decide), if_pos h101, Option.bind_some, if_pos rfl, e3]⟩, by omega, ?_⟩
    rw [hL]
    rw [expL_cons]
    rw [if_pos (.inl rfl)]
    exact d2
  · by_cases h69 : hv t p = 69
    · obtain ⟨hlt, hL⟩ := hv_L 69 (by decide) h69
      obtain ⟨b2, q2, ⟨K, e2⟩, n2, d2⟩ := num_j2t hs (p + 1) (by omega)
      refine ⟨b2, q2, .succ ⟨K, fun k hk => by have e3 := e2 k hk; simp only at e3; simp only [spec_reader_number.j1]; rw [if_neg (by decide), take_f hs p hp 101 (by decide), if_neg h101, Option.bind_some, if_neg (by simp), take_f hs p hp 69 (by decide), if_pos h69, Option.bind_some, e3]⟩, by omega, ?_⟩
      rw [hL]
      rw [expL_cons]
      rw [if_pos (.inr rfl)]
      exact d2
    · refine ⟨true, p, .succ (.succ (.const fun k => by simp only [spec_reader_number.j1, spec_reader_number.j2]; rw [if_neg (by decide), take_f hs p hp 101 (by decide), if_neg h101, Option.bind_some, if_neg (by simp), take_f hs p hp 69 (by decide), if_neg h69, Option.bind_some, if_neg (by simp)])), ⟨Nat.le_refl _, hp⟩, ?_⟩
      rw [if_pos rfl]
      have a := hv_ne 101 (by decide) h101
      have b := hv_ne 69 (by decide) h69
      cases hl : L t p with
      | nil => rfl
      | cons c l =>
        rw [expL_cons]
        rw [if_neg (by rintro (e | e); exact a l (by rw [hl, e]; rfl); exact b l (by rw [hl, e]; rfl))]
theorem num_j0f {t : ByteArray} (hs : t.size ≤ 2147483647) (p : Nat) (hp : p ≤ t.size) : ∃ (b : Bool) (q : Nat), Ev (fun k => spec_reader_number.j0 k false t (p : Int)) (b, t, (q : Int)) ∧ (p ≤ q ∧ q ≤ t.size) ∧ fracL (L t p) = (if b = true then some (L t q) else none) := by
  by_cases h46 : hv t p = 46
  · obtain ⟨hlt, hL⟩ := hv_L 46 (by decide) h46
    obtain ⟨b2, q2, ⟨K, e2⟩, n2, d2⟩ := digits_f hs (p + 1) (by omega)
    have hf : fracL (L t p) = (dg1 (L t (p + 1))).bind expL := by
      rw [hL]
      rw [fracL_cons, if_pos (show UInt8.ofNat 46 = 46 from rfl)]
    cases b2 with
    | false =>
      refine ⟨false, q2, .succ ⟨K + 1, fun k hk => by
        obtain ⟨k, rfl⟩ : ∃ m, k = m + 1 := ⟨k - 1, by omega⟩
        have e4 := e2 (k + 1) (by omega)
        simp only at e4
        simp only [spec_reader_number.j0]
        rw [if_neg (by decide), take_f hs p hp 46 (by decide), if_pos h46, Option.bind_some, if_pos rfl, e4, Option.bind_some]
        simp only [spec_reader_number.j1]
        rfl⟩, by omega, ?_⟩
      rw [hf, d2]
      rfl
    | true =>
      obtain ⟨b3, q3, ⟨K3, e3⟩, n3, d3⟩ := num_j1f hs q2 n2.2
      refine ⟨b3, q3, .succ ⟨max K K3, fun k hk => by have e4 := e2 k (by omega); have e5 := e3 k (by omega); simp only at e4 e5; simp only [spec_reader_number.j0]; rw [if_neg (by decide), take_f hs p hp 46 (by decide), if_pos h46, Option.bind_some, if_pos rfl, e4, Option.bind_some]; exact e5⟩, by omega, ?_⟩
      rw [hf, d2, if_pos rfl, Option.bind_some]
      exact d3
  · obtain ⟨b3, q3, ⟨K3, e3⟩, n3, d3⟩ := num_j1f hs p hp
    refine ⟨b3, q3, .succ ⟨K3, fun k hk => by have e5 := e3 k (by omega); simp only at e5; simp only [spec_reader_number.j0]; rw [if_neg (by decide), take_f hs p hp 46 (by decide), if_neg h46, Option.bind_some, if_neg (by simp), e5]⟩, n3, ?_⟩
    rw [← d3]
    have a := hv_ne 46 (by decide) h46
    cases hl : L t p with
    | nil => rfl
    | cons c l =>
      rw [fracL_cons]
      rw [if_neg (fun e => a l (by rw [hl, e]; rfl))]
def numR (t : ByteArray) (k q1 : Nat) : Option (Bool × ByteArray × Int) := (spec_reader_take.f t (q1 : Int) 48).bind fun bt122 => (if bt122.1 = true then (spec_reader_number.j0 k false bt122.2.1 bt122.2.2) else ((spec_reader_digits.f k bt122.2.1 bt122.2.2).bind fun bt125 => (spec_reader_number.j0 k (!bt125.1) bt125.2.1 bt125.2.2)))
theorem num_rest {t : ByteArray} (hs : t.size ≤ 2147483647) (q1 : Nat) (hq1 : q1 ≤ t.size) : ∃ (b : Bool) (q : Nat), Ev (fun k => numR t k q1) (b, t, (q : Int)) ∧ (q1 ≤ q ∧ q ≤ t.size) ∧ intL (L t q1) = (if b = true then some (L t q) else none) := by
  by_cases h48 : hv t q1 = 48
  · obtain ⟨hlt, hL⟩ := hv_L 48 (by decide) h48
    obtain ⟨b3, q3, ⟨K, e3⟩, n3, d3⟩ := num_j0f hs (q1 + 1) (by omega)
    refine ⟨b3, q3, ⟨K, fun k hk => ?_⟩, by omega, ?_⟩
    · have e4 := e3 k hk
      simp only at e4
      simp only [numR]
      rw [take_f hs q1 hq1 48 (by decide), if_pos h48, Option.bind_some, if_pos rfl, e4]
    · rw [hL]
      rw [intL_cons, if_pos (show UInt8.ofNat 48 = 48 from rfl)]
      exact d3
  · obtain ⟨b4, q4, ⟨K4, e4⟩, n4, d4⟩ := digits_f hs q1 hq1
    have hi : intL (L t q1) = (dg1 (L t q1)).bind fracL := by
      have a := hv_ne 48 (by decide) h48
      cases hl : L t q1 with
      | nil => rfl
      | cons c l =>
        rw [intL_cons]
        rw [if_neg (fun e => a l (by rw [hl, e]; rfl))]
    cases b4 with
    | false =>
      refine ⟨false, q4, ⟨K4 + 1, fun k hk => ?_⟩, n4, ?_⟩
      · obtain ⟨k, rfl⟩ : ∃ m, k = m + 1 := ⟨k - 1, by omega⟩
        have e6 := e4 (k + 1) (by omega)
        simp only at e6
        simp only [numR]
        rw [take_f hs q1 hq1 48 (by decide), if_neg h48, Option.bind_some, if_neg (by simp), e6, Option.bind_some]
        simp only [spec_reader_number.j0]
        rfl
      · rw [hi, d4]
        rfl
    | true =>
      obtain ⟨b3, q3, ⟨K, e3⟩, n3, d3⟩ := num_j0f hs q4 n4.2
      refine ⟨b3, q3, ⟨max K K4, fun k hk => ?_⟩, by omega, ?_⟩
      · have e5 := e3 k (by omega)
        have e6 := e4 k (by omega)
        simp only at e5 e6
        simp only [numR]
        rw [take_f hs q1 hq1 48 (by decide), if_neg h48, Option.bind_some, if_neg (by simp), e6, Option.bind_some]
        exact e5
      · rw [hi, d4, if_pos rfl, Option.bind_some]
        exact d3
theorem number_f {t : ByteArray} (hs : t.size ≤ 2147483647) (p : Nat) (hp : p ≤ t.size) : ∃ (b : Bool) (q : Nat), Ev (fun k => spec_reader_number.f k t (p : Int)) (b, t, (q : Int)) ∧ (p ≤ q ∧ q ≤ t.size) ∧ numL (L t p) = (if b = true then some (L t q) else none) := by
  by_cases h45 : hv t p = 45
  · obtain ⟨hlt, hL⟩ := hv_L 45 (by decide) h45
    obtain ⟨b, q, ⟨K, e⟩, n1, d1⟩ := num_rest hs (p + 1) (by omega)
    refine ⟨b, q, ⟨K, fun k hk => ?_⟩, by omega, ?_⟩
    · have f := e k hk
      simp only [numR] at f
      simp only [spec_reader_number.f]
      rw [take_f hs p hp 45 (by decide), if_pos h45, Option.bind_some]
      exact f
    · rw [hL]
      rw [numL_cons, if_pos (show UInt8.ofNat 45 = 45 from rfl)]
      exact d1
  · obtain ⟨b, q, ⟨K, e⟩, n1, d1⟩ := num_rest hs p hp
    refine ⟨b, q, ⟨K, fun k hk => ?_⟩, n1, ?_⟩
    · have f := e k hk
      simp only [numR] at f
      simp only [spec_reader_number.f]
      rw [take_f hs p hp 45 (by decide), if_neg h45, Option.bind_some]
      exact f
    · rw [← d1]
      have a := hv_ne 45 (by decide) h45
      cases hl : L t p with
      | nil => rfl
      | cons c l =>
        rw [numL_cons]
        rw [if_neg (fun e => a l (by rw [hl, e]; rfl))]

theorem dg1_lt {l r : List UInt8} (h : dg1 l = some r) : r.length < l.length := by
  cases l with
  | nil => cases h
  | cons c l =>
    rw [dg1_cons] at h
    split at h
    · obtain rfl := Option.some.inj h
      have := dgs_le l
      simp only [List.length_cons]
      omega
    · cases h
theorem sgnL_le (l : List UInt8) : (sgnL l).length ≤ l.length := by
  cases l with
  | nil => exact Nat.le_refl _
  | cons c l =>
    rw [sgnL_cons]
    split
    · simp
    · split
      · simp
      · exact Nat.le_refl _
theorem expL_le {l r : List UInt8} (h : expL l = some r) : r.length ≤ l.length := by
  cases l with
  | nil => obtain rfl := Option.some.inj h; exact Nat.le_refl _
  | cons c l =>
    rw [expL_cons] at h
    split at h
    · have h1 := dg1_lt h
      have h2 := sgnL_le l
      simp only [List.length_cons]
      omega
    · obtain rfl := Option.some.inj h
      exact Nat.le_refl _
theorem fracL_le {l r : List UInt8} (h : fracL l = some r) : r.length ≤ l.length := by
  cases l with
  | nil => obtain rfl := Option.some.inj h; exact Nat.le_refl _
  | cons c l =>
    rw [fracL_cons] at h
    split at h
    · obtain ⟨m, h1, h2⟩ := Option.bind_eq_some_iff.1 h
      have := dg1_lt h1
      have := expL_le h2
      simp only [List.length_cons]
      omega
    · exact expL_le h
theorem intL_lt {l r : List UInt8} (h : intL l = some r) : r.length < l.length := by
  cases l with
  | nil => cases h
  | cons c l =>
    rw [intL_cons] at h
    split at h
    · have := fracL_le h
      simp only [List.length_cons]
      omega
    · obtain ⟨m, h1, h2⟩ := Option.bind_eq_some_iff.1 h
      have := dg1_lt h1
      have := fracL_le h2
      omega
theorem numL_lt {l r : List UInt8} (h : numL l = some r) : r.length < l.length := by
  cases l with
  | nil => cases h
  | cons c l =>
    rw [numL_cons] at h
    split at h
    · have := intL_lt h
      simp only [List.length_cons]
      omega
    · exact intL_lt h

/-- A word of letters. -/
theorem word_f {t : ByteArray} (hs : t.size ≤ 2147483647) (p : Nat) (hp : p ≤ t.size) (a : ByteArray) (ha : a.size ≤ 10) : ∃ (b : Bool) (q : Nat), spec_reader_word.f t (p : Int) a = some (b, t, (q : Int)) ∧ (p ≤ q ∧ q ≤ t.size) ∧ (b = true → q = p + a.size ∧ L t p = a.data.toList ++ L t q) ∧ (b = false → q = p) := by
  unfold spec_reader_word.f
  rw [w64 (n := (t.size : Int) - (p : Int)) (by omega) (by omega), w64 (n := (p : Int) + (a.size : Int)) (by omega) (by omega)]
  by_cases h1 : (t.size : Int) - (p : Int) < (a.size : Int)
  · exact ⟨false, p, by rw [if_pos h1], ⟨Nat.le_refl _, hp⟩, ⟨(fun h => by cases h), fun _ => rfl⟩⟩
  · rw [if_neg h1, if_pos (by omega), if_pos (by omega), if_pos (by omega)]
    have hc1 : ((p : Int)).toNat = p := by omega
    have hc2 : ((p : Int) + (a.size : Int)).toNat = p + a.size := by omega
    rw [hc1, hc2]
    by_cases h2 : (t.extract p (p + a.size)).toList = a.toList
    · refine ⟨true, p + a.size, by rw [if_pos h2]; congr 3, by omega, ⟨fun _ => ⟨rfl, ?_⟩, fun h => by cases h⟩⟩
      rw [ByteArray.toList_eq, ByteArray.toList_eq, ByteArray.data_extract, Array.toList_extract] at h2
      simp only [List.extract_eq_take_drop, Nat.add_sub_cancel_left] at h2
      unfold L
      rw [← h2, ← List.drop_drop]
      exact (List.take_append_drop _ _).symm
    · exact ⟨false, p, by rw [if_neg h2], ⟨Nat.le_refl _, hp⟩, ⟨(fun h => by cases h), fun _ => rfl⟩⟩
end Go.Proofs.Ytdokakhhpcckaaa.Pure
