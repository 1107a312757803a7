/- gjson's small checks (validstring, validnumber, validcolon, validcomma, validtrue, validfalse, validnull) take what the grammar takes: the printed list functions. Condition: the text takes at most 2^31 - 1 bytes. -/
import Derived.Test.YtdokakhhpcckaaaGr2
import Derived.Test.YtdokakhhpcckaaaMFnPrSpecAgain7
import Derived.Test.YtdokakhhpcckaaaMFnPrSpecAgain8
import Derived.Test.YtdokakhhpcckaaaMFnPrSpecAgain9
import Derived.Test.YtdokakhhpcckaaaMFnPrSpecAgain10
namespace Go.Proofs.Ytdokakhhpcckaaa.Pure
set_option linter.unusedVariables false
open Go.RowKit Go.Proofs.Ytdokakhhpcckaaa Go.Proofs.Ytdokakhhpcckaaa.MFnPrSpecAgain Go.Proofs.YtdokakhhpcckaaaW.PrintWords Go.Proofs.YtdokakhhpcckaaaW.PrintLast

/-- The text's bytes as numbers. -/
def D (t : ByteArray) : List Int := t.data.toList.map fun b => (b.toNat : Int)
theorem D_len (t : ByteArray) : (D t).length = t.size := by
  unfold D
  rw [List.length_map, Array.length_toList]
  rfl
theorem rd_D (t : ByteArray) (p : Nat) : rd (D t) (p : Int) = hv t p := by
  unfold rd D hv
  rw [Int.toNat_natCast, List.getD_eq_getElem?_getD, List.getElem?_map]
  by_cases h : p < t.size
  · rw [dif_pos h]
    have hl : p < t.data.toList.length := by rw [Array.length_toList]; exact h
    rw [List.getElem?_eq_getElem hl]
    rfl
  · rw [dif_neg h]
    have hl : t.data.toList.length ≤ p := by
      rw [Array.length_toList]
      have : t.data.size = t.size := rfl
      omega
    rw [List.getElem?_eq_none hl]
    rfl
theorem L_hv {t : ByteArray} {p : Nat} {c : UInt8} {r : List UInt8} (h : L t p = c :: r) : p < t.size ∧ hv t p = (c.toNat : Int) ∧ r = L t (p + 1) := by
  have hp : p < t.size := by
    apply Classical.byContradiction
    intro hp
    rw [L_nil hp] at h
    cases h
  rw [L_cons hp] at h
  obtain ⟨h1, h2⟩ := List.cons.inj h
  refine ⟨hp, ?_, h2.symm⟩
  unfold hv
  rw [dif_pos hp, h1]
theorem L_inj {t : ByteArray} {p q : Nat} (hp : p ≤ t.size) (hq : q ≤ t.size) (h : L t p = L t q) : p = q := by
  have := congrArg List.length h
  rw [L_len, L_len] at this
  omega

theorem ishex_f (c : UInt8) (h : hexc c = true) : gjson_ishex.f (c.toNat : Int) = some true := by
  unfold hexc at h
  have h := of_decide_eq_true h
  unfold gjson_ishex.f
  by_cases h1 : (c.toNat : Int) ≥ 48
  · rw [if_pos h1]
    by_cases h2 : (c.toNat : Int) ≤ 57
    · rw [if_pos h2]
    · rw [if_neg h2]
      by_cases h3 : (c.toNat : Int) ≥ 97
      · rw [if_pos h3, if_pos (by omega)]
      · rw [if_neg h3, if_pos (by omega)]
        congr 1
        exact decide_eq_true (by omega)
  · omega

theorem esc_chain (k : Nat) (x0 : List Int) (i v : Int) (h : v = 34 ∨ v = 92 ∨ v = 47 ∨ v = 98 ∨ v = 102 ∨ v = 110 ∨ v = 114 ∨ v = 116) :
    (if v = 34 then (gjson_validstring.j1 k x0 i v (v == 34)) else (if v = 92 then (gjson_validstring.j1 k x0 i v (v == 92)) else (if v = 47 then (gjson_validstring.j1 k x0 i v (v == 47)) else (if v = 98 then (gjson_validstring.j1 k x0 i v (v == 98)) else (if v = 102 then (gjson_validstring.j1 k x0 i v (v == 102)) else (if v = 110 then (gjson_validstring.j1 k x0 i v (v == 110)) else (if v = 114 then (gjson_validstring.j1 k x0 i v (v == 114)) else (gjson_validstring.j1 k x0 i v (v == 116))))))))) = gjson_validstring.j1 k x0 i v true := by
  rcases h with rfl | rfl | rfl | rfl | rfl | rfl | rfl | rfl <;> rfl
theorem esc_chain_u (k : Nat) (x0 : List Int) (i : Int) :
    (if (117 : Int) = 34 then (gjson_validstring.j1 k x0 i 117 ((117 : Int) == 34)) else (if (117 : Int) = 92 then (gjson_validstring.j1 k x0 i 117 ((117 : Int) == 92)) else (if (117 : Int) = 47 then (gjson_validstring.j1 k x0 i 117 ((117 : Int) == 47)) else (if (117 : Int) = 98 then (gjson_validstring.j1 k x0 i 117 ((117 : Int) == 98)) else (if (117 : Int) = 102 then (gjson_validstring.j1 k x0 i 117 ((117 : Int) == 102)) else (if (117 : Int) = 110 then (gjson_validstring.j1 k x0 i 117 ((117 : Int) == 110)) else (if (117 : Int) = 114 then (gjson_validstring.j1 k x0 i 117 ((117 : Int) == 114)) else (gjson_validstring.j1 k x0 i 117 ((117 : Int) == 116))))))))) = gjson_validstring.j1 k x0 i 117 false := rfl
theorem escs_vals {c : UInt8} (h : escs c = true) : (c.toNat : Int) = 34 ∨ (c.toNat : Int) = 92 ∨ (c.toNat : Int) = 47 ∨ (c.toNat : Int) = 98 ∨ (c.toNat : Int) = 102 ∨ (c.toNat : Int) = 110 ∨ (c.toNat : Int) = 114 ∨ (c.toNat : Int) = 116 := by
  unfold escs at h
  simp only [Bool.or_eq_true, beq_iff_eq] at h
  rcases h with ((((((h | h) | h) | h) | h) | h) | h) | h <;> subst h <;> decide

theorem q1 : wrap64 (0 + 1) = 1 := by unfold wrap64; omega
theorem q2 : wrap64 (1 + 1) = 2 := by unfold wrap64; omega
theorem q3 : wrap64 (2 + 1) = 3 := by unfold wrap64; omega
theorem q4 : wrap64 (3 + 1) = 4 := by unfold wrap64; omega
theorem w2 {p m : Nat} (h : p + m ≤ 4294967296) : wrap64 ((p : Int) + (m : Int)) = ((p + m : Nat) : Int) := by rw [w64 (by omega) (by omega)]; omega

theorem vstr_l {t : ByteArray} (hs : t.size ≤ 2147483647) {l r : List UInt8} (h : StrIn l r) : ∀ p, l = L t p → p ≤ t.size → ∃ q, r = L t q ∧ (p < q ∧ q ≤ t.size) ∧ Ev (fun k => gjson_validstring.l0 k (D t) (p : Int)) ((q : Int), true) := by
  induction h with
  | close r =>
    intro p hp hle
    obtain ⟨hlt, hv1, hr⟩ := L_hv hp.symm
    have hv1 : hv t p = 34 := hv1
    refine ⟨p + 1, hr, by omega, .succ (.const fun k => ?_)⟩
    simp only [gjson_validstring.l0]
    rw [D_len, rd_D, hv1, if_pos (by omega), if_pos (by omega), if_neg (by decide), if_neg (by decide), if_pos rfl, w1 (by omega)]
  | one c l r h1 h2 h3 _ ih =>
    intro p hp hle
    obtain ⟨hlt, hv1, hr⟩ := L_hv hp.symm
    obtain ⟨q, e1, e2, ⟨K, e3⟩⟩ := ih (p + 1) hr (by omega)
    refine ⟨q, e1, by omega, .succ ⟨K, fun k hk => ?_⟩⟩
    have e := e3 k hk
    simp only at e
    have n34 : ¬ (c.toNat : Int) = 34 := fun e => h1 ((u8e (n := 34) (by decide)).1 e)
    have n92 : ¬ (c.toNat : Int) = 92 := fun e => h2 ((u8e (n := 92) (by decide)).1 e)
    simp only [gjson_validstring.l0]
    rw [D_len, rd_D, hv1, if_pos (by omega), if_pos (by omega), if_neg (by omega), if_neg n92, if_neg n34, w1 (by omega)]
    exact e
  | esc c l r hc _ ih =>
    intro p hp hle
    obtain ⟨hlt, hv1, hr⟩ := L_hv hp.symm
    obtain ⟨hlt2, hv2, hr2⟩ := L_hv hr.symm
    have hv1 : hv t p = 92 := hv1
    obtain ⟨q, e1, e2, ⟨K, e3⟩⟩ := ih (p + 1 + 1) hr2 (by omega)
    refine ⟨q, e1, by omega, .succ (.succ ⟨K, fun k hk => ?_⟩)⟩
    have e := e3 k hk
    simp only at e
    simp only [gjson_validstring.l0]
    rw [D_len, rd_D, hv1, if_pos (by omega), if_pos (by omega), if_neg (by decide), if_pos rfl, w1 (by omega), if_neg (by omega), if_pos (by omega), if_pos (by omega), rd_D, hv2, esc_chain _ _ _ _ (escs_vals hc)]
    simp only [gjson_validstring.j1]
    rw [if_pos trivial, w1 (p := p + 1) (by omega)]
    exact e
  | uni a b c d l r ha hb hc hd _ ih =>
    intro p hp hle
    obtain ⟨hlt, hv1, hr⟩ := L_hv hp.symm
    obtain ⟨hlt2, hv2, hr2⟩ := L_hv hr.symm
    obtain ⟨hlta, hva, hra⟩ := L_hv hr2.symm
    obtain ⟨hltb, hvb, hrb⟩ := L_hv hra.symm
    obtain ⟨hltc, hvc, hrc⟩ := L_hv hrb.symm
    obtain ⟨hltd, hvd, hrd⟩ := L_hv hrc.symm
    have hv1 : hv t p = 92 := hv1
    have hv2 : hv t (p + 1) = 117 := hv2
    obtain ⟨q, e1, e2, ⟨K, e3⟩⟩ := ih (p + 1 + 1 + 1 + 1 + 1 + 1) hrd (by omega)
    refine ⟨q, e1, by omega, .succ (.succ (.succ (.succ (.succ (.succ (.succ ⟨K, fun k hk => ?_⟩))))))⟩
    have e := e3 k hk
    simp only at e
    simp only [gjson_validstring.l0]
    rw [D_len, rd_D, hv1, if_pos (by omega), if_pos (by omega), if_neg (by decide), if_pos rfl, w1 (by omega), if_neg (by omega), if_pos (by omega), if_pos (by omega), rd_D, hv2, esc_chain_u]
    simp only [gjson_validstring.j1]
    rw [if_neg (by decide), if_pos trivial]
    simp only [gjson_validstring.l1]
    rw [D_len, w1 (p := p + 1) (by omega), if_pos (by decide), if_neg (by omega), if_pos (by omega), if_pos (by omega), rd_D, hva, ishex_f _ ha, Option.bind_some, if_pos rfl]
    rw [w1 (p := p + 1 + 1) (by omega), q1, if_pos (by decide), if_neg (by omega), if_pos (by omega), if_pos (by omega), rd_D, hvb, ishex_f _ hb, Option.bind_some, if_pos rfl]
    rw [w1 (p := p + 1 + 1 + 1) (by omega), q2, if_pos (by decide), if_neg (by omega), if_pos (by omega), if_pos (by omega), rd_D, hvc, ishex_f _ hc, Option.bind_some, if_pos rfl]
    rw [w1 (p := p + 1 + 1 + 1 + 1) (by omega), q3, if_pos (by decide), if_neg (by omega), if_pos (by omega), if_pos (by omega), rd_D, hvd, ishex_f _ hd, Option.bind_some, if_pos rfl]
    rw [q4, if_neg (by decide), w1 (p := p + 1 + 1 + 1 + 1 + 1) (by omega)]
    exact e

theorem vstr_f {t : ByteArray} (hs : t.size ≤ 2147483647) {r : List UInt8} (p : Nat) (hp : p ≤ t.size) (h : StrIn (L t p) r) : ∃ q, r = L t q ∧ (p < q ∧ q ≤ t.size) ∧ Ev (fun k => gjson_validstring.f k (D t) (p : Int)) ((q : Int), true) := vstr_l hs h p rfl hp

theorem hv_dgt {t : ByteArray} {p : Nat} {c : UInt8} {l : List UInt8} (h : L t p = c :: l) : dgt c = true ↔ (48 ≤ hv t p ∧ hv t p ≤ 57) := by
  obtain ⟨hp, h1, _⟩ := L_hv h
  rw [h1]
  unfold dgt
  simp
  omega

/-- A run of digits, by any of the loops that go over one. -/
theorem vdig {t : ByteArray} (hs : t.size ≤ 2147483647) (f : Nat → Int → Option (Int × Bool)) (g : Nat → Int → Option (Int × Bool))
    (hf : ∀ k x, f (k + 1) x = if x < ((D t).length : Int) then (if 0 ≤ x then (if (rd (D t) x) ≥ 48 then (if (rd (D t) x) ≤ 57 then (f k (wrap64 (x + 1))) else (g k x)) else (g k x)) else (none)) else (g k x)) :
    ∀ (n p : Nat), t.size - p = n → p ≤ t.size → ∀ z, (∀ q, L t q = dgs (L t p) → p ≤ q → q ≤ t.size → Ev (fun k => g k (q : Int)) z) → Ev (fun k => f k (p : Int)) z := by
  intro n
  induction n with
  | zero =>
    intro p hn hp z hg
    refine .succ ((hg p ?_ (Nat.le_refl _) hp).congr fun k => ?_)
    · rw [L_nil (by omega)]
      rfl
    · rw [hf, D_len, if_neg (by omega)]
  | succ n ih =>
    intro p hn hp z hg
    have hlt : p < t.size := by omega
    have hd := dgt_hv hlt
    have stop : ¬ (dgt t[p] = true) → dgs (L t p) = L t p := by
      intro h
      rw [L_cons hlt, dgs_cons, if_neg h]
    by_cases h1 : 48 ≤ hv t p
    · by_cases h2 : hv t p ≤ 57
      · refine .succ ((ih (p + 1) (by omega) (by omega) z fun q e1 e2 e3 => hg q ?_ (by omega) e3).congr fun k => ?_)
        · rw [e1, L_cons hlt, dgs_cons, if_pos (hd.2 ⟨h1, h2⟩)]
        · rw [hf, D_len, rd_D, if_pos (by omega), if_pos (by omega), if_pos (by omega), if_pos h2, w1 (by omega)]
      · refine .succ ((hg p (stop fun h => h2 (hd.1 h).2).symm (Nat.le_refl _) hp).congr fun k => ?_)
        rw [hf, D_len, rd_D, if_pos (by omega), if_pos (by omega), if_pos (by omega), if_neg h2]
    · refine .succ ((hg p (stop fun h => h1 (hd.1 h).1).symm (Nat.le_refl _) hp).congr fun k => ?_)
      rw [hf, D_len, rd_D, if_pos (by omega), if_pos (by omega), if_neg (by omega)]

theorem vn_j8 {t : ByteArray} (hs : t.size ≤ 2147483647) (p : Nat) (hp : p ≤ t.size) {r : List UInt8} (h : dg1 (L t p) = some r) : ∃ q, r = L t q ∧ (p < q ∧ q ≤ t.size) ∧ Ev (fun k => gjson_validnumber.j8 k (D t) (p : Int)) ((q : Int), true) := by
  cases hl : L t p with
  | nil => rw [hl] at h; cases h
  | cons c l =>
    rw [hl, dg1_cons] at h
    obtain ⟨hlt, hc, hr⟩ := L_hv hl
    have hd := hv_dgt hl
    by_cases hdc : dgt c = true
    · rw [if_pos hdc] at h
      obtain rfl := Option.some.inj h
      have hrange := hd.1 hdc
      obtain ⟨q, _, e2, e3⟩ := digits_l hs 0 _ (p + 1) rfl (by omega)
      refine ⟨q, by rw [e3, hr], by omega, ?_⟩
      obtain ⟨K, e⟩ := vdig hs (fun k x => gjson_validnumber.l2 k (D t) x) (fun _ x => some (x, true)) (fun k x => by simp only [gjson_validnumber.l2]) _ (p + 1) rfl (by omega) ((q : Int), true) (fun q' e1 e4 e5 => by
        have : q' = q := L_inj e5 e2.2 (e1.trans e3.symm)
        subst this
        exact .const fun k => rfl)
      refine .succ (.succ ⟨K, fun k hk => ?_⟩)
      have e := e k hk
      simp only at e
      simp only [gjson_validnumber.j8, gjson_validnumber.j9]
      rw [D_len, rd_D, if_neg (by omega), if_pos (by omega), if_pos (by omega), if_neg (by omega), decide_eq_false (by omega), if_neg (by decide), w1 (by omega)]
      exact e
    · rw [if_neg hdc] at h
      cases h

theorem vn_j5 {t : ByteArray} (hs : t.size ≤ 2147483647) (p : Nat) (hp : p ≤ t.size) {r : List UInt8} (h : expL (L t p) = some r) : ∃ q, r = L t q ∧ (p ≤ q ∧ q ≤ t.size) ∧ Ev (fun k => gjson_validnumber.j5 k (D t) (p : Int)) ((q : Int), true) := by
  cases hl : L t p with
  | nil =>
    rw [hl] at h
    obtain rfl := Option.some.inj h
    have hlen := congrArg List.length hl
    rw [L_len] at hlen
    have hpe : p = t.size := by simp at hlen; omega
    refine ⟨p, hl.symm, ⟨Nat.le_refl _, hp⟩, .succ (.const fun k => ?_)⟩
    simp only [gjson_validnumber.j5]
    rw [D_len, if_pos (by omega)]
  | cons c l =>
    rw [hl, expL_cons] at h
    obtain ⟨hlt, hc, hr⟩ := L_hv hl
    by_cases hce : c = 101 ∨ c = 69
    · rw [if_pos hce] at h
      have h6 : ∀ z, Ev (fun k => gjson_validnumber.j6 k (D t) (p : Int) true) z → Ev (fun k => gjson_validnumber.j5 k (D t) (p : Int)) z := by
        intro z hz
        refine .succ (hz.congr fun k => ?_)
        simp only [gjson_validnumber.j5]
        rw [D_len, rd_D, if_neg (by omega), if_pos (by omega), if_pos (by omega)]
        rcases hce with rfl | rfl
        · rw [show hv t p = 101 from hc, if_pos rfl]
        · rw [show hv t p = 69 from hc, if_neg (by decide)]
          rfl
      have hl1 : ∃ c1 l1, l = c1 :: l1 := by
        cases l with
        | nil => cases h
        | cons c1 l1 => exact ⟨c1, l1, rfl⟩
      obtain ⟨c1, l1, rfl⟩ := hl1
      obtain ⟨hlt1, hc1, hr1⟩ := L_hv hr.symm
      have hj7 : ∀ (b : Bool) (p' : Nat) z, (b = true → p' = p + 2) → (b = false → p' = p + 1) → Ev (fun k => gjson_validnumber.j8 k (D t) (p' : Int)) z → Ev (fun k => gjson_validnumber.j7 k (D t) ((p + 1 : Nat) : Int) b) z := by
        intro b p' z h1 h2 hz
        cases b with
        | true =>
          obtain rfl := h1 rfl
          exact .succ (hz.congr fun k => by simp only [gjson_validnumber.j7]; rw [if_pos trivial, w1 (p := p + 1) (by omega)])
        | false =>
          obtain rfl := h2 rfl
          exact .succ (hz.congr fun k => by simp only [gjson_validnumber.j7]; rw [if_neg (by decide)])
      by_cases h43 : c1 = 43
      · subst h43
        rw [sgnL_cons, if_pos rfl, hr1] at h
        obtain ⟨q, e1, e2, e3⟩ := vn_j8 hs (p + 2) (by omega) h
        refine ⟨q, e1, by omega, h6 _ (.succ ((hj7 true (p + 2) _ (fun _ => rfl) (fun h => by cases h) e3).congr fun k => ?_))⟩
        simp only [gjson_validnumber.j6]
        rw [if_pos trivial, D_len, w1 (by omega), rd_D, if_neg (by omega), if_pos (by omega), if_pos (by omega), if_pos (show hv t (p + 1) = 43 from hc1)]
      · rw [sgnL_cons, if_neg h43] at h
        have n43 : ¬ hv t (p + 1) = 43 := by rw [hc1]; exact fun e => h43 ((u8e (n := 43) (by decide)).1 e)
        by_cases h45 : c1 = 45
        · subst h45
          rw [if_pos rfl, hr1] at h
          obtain ⟨q, e1, e2, e3⟩ := vn_j8 hs (p + 2) (by omega) h
          refine ⟨q, e1, by omega, h6 _ (.succ ((hj7 true (p + 2) _ (fun _ => rfl) (fun h => by cases h) e3).congr fun k => ?_))⟩
          simp only [gjson_validnumber.j6]
          rw [if_pos trivial, D_len, w1 (by omega), rd_D, if_neg (by omega), if_pos (by omega), if_pos (by omega), if_neg n43, show hv t (p + 1) = 45 from hc1]
          rfl
        · rw [if_neg h45, hr] at h
          have n45 : (hv t (p + 1) == 45) = false := by rw [beq_eq_false_iff_ne, hc1]; exact fun e => h45 ((u8e (n := 45) (by decide)).1 e)
          obtain ⟨q, e1, e2, e3⟩ := vn_j8 hs (p + 1) (by omega) h
          refine ⟨q, e1, by omega, h6 _ (.succ ((hj7 false (p + 1) _ (fun h => by cases h) (fun _ => rfl) e3).congr fun k => ?_))⟩
          simp only [gjson_validnumber.j6]
          rw [if_pos trivial, D_len, w1 (by omega), rd_D, if_neg (by omega), if_pos (by omega), if_pos (by omega), if_neg n43, n45]
    · rw [if_neg hce] at h
      obtain rfl := Option.some.inj h
      have n101 : ¬ hv t p = 101 := by rw [hc]; exact fun e => hce (.inl ((u8e (n := 101) (by decide)).1 e))
      have n69 : (hv t p == 69) = false := by rw [beq_eq_false_iff_ne, hc]; exact fun e => hce (.inr ((u8e (n := 69) (by decide)).1 e))
      refine ⟨p, hl.symm, ⟨Nat.le_refl _, hp⟩, .succ (.succ (.const fun k => ?_))⟩
      simp only [gjson_validnumber.j5, gjson_validnumber.j6]
      rw [D_len, rd_D, if_neg (by omega), if_pos (by omega), if_pos (by omega), if_neg n101, n69, if_neg (by decide)]

theorem vn_j2 {t : ByteArray} (hs : t.size ≤ 2147483647) (p : Nat) (hp : p ≤ t.size) {r : List UInt8} (h : fracL (L t p) = some r) : ∃ q, r = L t q ∧ (p ≤ q ∧ q ≤ t.size) ∧ Ev (fun k => gjson_validnumber.j2 k (D t) (p : Int)) ((q : Int), true) := by
  cases hl : L t p with
  | nil =>
    rw [hl] at h
    obtain rfl := Option.some.inj h
    have hlen := congrArg List.length hl
    rw [L_len] at hlen
    have hpe : p = t.size := by simp at hlen; omega
    refine ⟨p, hl.symm, ⟨Nat.le_refl _, hp⟩, .succ (.const fun k => ?_)⟩
    simp only [gjson_validnumber.j2]
    rw [D_len, if_pos (by omega)]
  | cons c l =>
    rw [hl, fracL_cons] at h
    obtain ⟨hlt, hc, hr⟩ := L_hv hl
    by_cases h46 : c = 46
    · subst h46
      rw [if_pos rfl] at h
      obtain ⟨m, hm1, hm2⟩ := Option.bind_eq_some_iff.1 h
      have hl1 : ∃ c1 l1, l = c1 :: l1 := by
        cases l with
        | nil => cases hm1
        | cons c1 l1 => exact ⟨c1, l1, rfl⟩
      obtain ⟨c1, l1, rfl⟩ := hl1
      obtain ⟨hlt1, hc1, hr1⟩ := L_hv hr.symm
      have hd := hv_dgt hr.symm
      rw [dg1_cons] at hm1
      by_cases hdc : dgt c1 = true
      · rw [if_pos hdc] at hm1
        obtain rfl := Option.some.inj hm1
        have hrange := hd.1 hdc
        rw [hr1] at hm2
        obtain ⟨q2, _, n2, e4⟩ := digits_l hs 0 _ (p + 2) rfl (by omega)
        rw [← e4] at hm2
        obtain ⟨q, e1, e2, e3⟩ := vn_j5 hs q2 n2.2 hm2
        refine ⟨q, e1, by omega, ?_⟩
        obtain ⟨K, e⟩ := vdig hs (fun k x => gjson_validnumber.l1 k (D t) x) (fun k x => gjson_validnumber.j5 k (D t) x) (fun k x => by simp only [gjson_validnumber.l1]) _ (p + 2) rfl (by omega) ((q : Int), true) (fun q' x1 x2 x3 => by
          have : q' = q2 := L_inj x3 n2.2 (x1.trans e4.symm)
          subst this
          exact e3)
        refine .succ (.succ ⟨K, fun k hk => ?_⟩)
        have e := e k hk
        simp only at e
        simp only [gjson_validnumber.j2, gjson_validnumber.j3]
        rw [D_len, rd_D, if_neg (by omega), if_pos (by omega), if_pos (by omega), if_pos (show hv t p = 46 from hc), w1 (by omega), if_neg (by omega), if_pos (by omega), if_pos (by omega), rd_D, if_neg (by omega), decide_eq_false (by omega), if_neg (by decide), w1 (p := p + 1) (by omega)]
        exact e
      · rw [if_neg hdc] at hm1
        cases hm1
    · rw [if_neg h46, ← hl] at h
      have n46 : ¬ hv t p = 46 := by rw [hc]; exact fun e => h46 ((u8e (n := 46) (by decide)).1 e)
      obtain ⟨q, e1, e2, ⟨K, e3⟩⟩ := vn_j5 hs p hp h
      refine ⟨q, e1, e2, .succ ⟨K, fun k hk => ?_⟩⟩
      have e := e3 k hk
      simp only at e
      simp only [gjson_validnumber.j2]
      rw [D_len, rd_D, if_neg (by omega), if_pos (by omega), if_pos (by omega), if_neg n46]
      exact e

theorem vn_j0 {t : ByteArray} (hs : t.size ≤ 2147483647) (p : Nat) (hp : p ≤ t.size) {r : List UInt8} (h : intL (L t p) = some r) : (48 ≤ hv t p ∧ hv t p ≤ 57) ∧ ∃ q, r = L t q ∧ (p < q ∧ q ≤ t.size) ∧ Ev (fun k => gjson_validnumber.j0 k (D t) (p : Int)) ((q : Int), true) := by
  cases hl : L t p with
  | nil => rw [hl] at h; cases h
  | cons c l =>
    rw [hl, intL_cons] at h
    obtain ⟨hlt, hc, hr⟩ := L_hv hl
    by_cases h48 : c = 48
    · subst h48
      have hc : hv t p = 48 := hc
      rw [if_pos rfl, hr] at h
      obtain ⟨q, e1, e2, ⟨K, e3⟩⟩ := vn_j2 hs (p + 1) (by omega) h
      refine ⟨by omega, q, e1, by omega, .succ ⟨K, fun k hk => ?_⟩⟩
      have e := e3 k hk
      simp only at e
      simp only [gjson_validnumber.j0]
      rw [D_len, rd_D, if_neg (by omega), if_pos (by omega), if_pos (by omega), if_pos hc, w1 (by omega)]
      exact e
    · rw [if_neg h48] at h
      obtain ⟨m, hm1, hm2⟩ := Option.bind_eq_some_iff.1 h
      have hd := hv_dgt hl
      rw [dg1_cons] at hm1
      by_cases hdc : dgt c = true
      · rw [if_pos hdc] at hm1
        obtain rfl := Option.some.inj hm1
        have hrange := hd.1 hdc
        have hdl : dgs (L t p) = dgs l := by rw [hl, dgs_cons, if_pos hdc]
        rw [← hdl] at hm2
        obtain ⟨q2, _, n2, e4⟩ := digits_l hs 0 _ p rfl hp
        rw [← e4] at hm2
        obtain ⟨q, e1, e2, e3⟩ := vn_j2 hs q2 n2.2 hm2
        have hq2 : p < q2 := by
          have := congrArg List.length (e4.trans hdl)
          have h2 := dgs_le l
          have h3 := congrArg List.length hl
          rw [L_len] at this h3
          simp only [List.length_cons] at h3
          omega
        refine ⟨hrange, q, e1, by omega, ?_⟩
        obtain ⟨K, e⟩ := vdig hs (fun k x => gjson_validnumber.l0 k (D t) x) (fun k x => gjson_validnumber.j2 k (D t) x) (fun k x => by simp only [gjson_validnumber.l0]) _ p rfl hp ((q : Int), true) (fun q' x1 x2 x3 => by
          have : q' = q2 := L_inj x3 n2.2 (x1.trans e4.symm)
          subst this
          exact e3)
        have n48 : ¬ hv t p = 48 := by rw [hc]; exact fun e => h48 ((u8e (n := 48) (by decide)).1 e)
        refine .succ ⟨K, fun k hk => ?_⟩
        have e := e k hk
        simp only at e
        simp only [gjson_validnumber.j0]
        rw [D_len, rd_D, if_neg (by omega), if_pos (by omega), if_pos (by omega), if_neg n48]
        exact e
      · rw [if_neg hdc] at hm1
        cases hm1

theorem vnum_f {t : ByteArray} (hs : t.size ≤ 2147483647) (p : Nat) (hp : p ≤ t.size) {r : List UInt8} (h : numL (L t p) = some r) : ∃ q, r = L t q ∧ (p < q ∧ q ≤ t.size) ∧ Ev (fun k => gjson_validnumber.f k (D t) ((p + 1 : Nat) : Int)) ((q : Int), true) := by
  have hm : wrap64 (((p + 1 : Nat) : Int) - 1) = (p : Int) := by rw [w64 (by omega) (by omega)]; omega
  cases hl : L t p with
  | nil => rw [hl] at h; cases h
  | cons c l =>
    rw [hl, numL_cons] at h
    obtain ⟨hlt, hc, hr⟩ := L_hv hl
    by_cases h45 : c = 45
    · subst h45
      rw [if_pos rfl, hr] at h
      obtain ⟨hrange, q, e1, e2, ⟨K, e3⟩⟩ := vn_j0 hs (p + 1) (by omega) h
      have hlt1 : p + 1 < t.size := by
        obtain ⟨x, _⟩ := hv_lt (t := t) (p := p + 1) (by omega)
        exact x
      refine ⟨q, e1, by omega, ⟨K, fun k hk => ?_⟩⟩
      have e := e3 k hk
      simp only at e
      simp only [gjson_validnumber.f]
      rw [hm, D_len, if_pos (by omega), if_pos (by omega), rd_D, if_pos (show hv t p = 45 from hc), w1 (by omega), rd_D, if_neg (by omega), if_pos (by omega), if_pos (by omega), if_neg (by omega), if_neg (by omega)]
      exact e
    · rw [if_neg h45, ← hl] at h
      have n45 : ¬ hv t p = 45 := by rw [hc]; exact fun e => h45 ((u8e (n := 45) (by decide)).1 e)
      obtain ⟨hrange, q, e1, e2, ⟨K, e3⟩⟩ := vn_j0 hs p hp h
      refine ⟨q, e1, e2, ⟨K, fun k hk => ?_⟩⟩
      have e := e3 k hk
      simp only at e
      simp only [gjson_validnumber.f]
      rw [hm, D_len, if_pos (by omega), if_pos (by omega), rd_D, if_neg n45]
      exact e
end Go.Proofs.Ytdokakhhpcckaaa.Pure
