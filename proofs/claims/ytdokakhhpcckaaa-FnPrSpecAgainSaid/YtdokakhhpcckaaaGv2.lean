/- gjson's validcolon, validcomma and the words take what the grammar takes. Condition: the text takes at most 2^31 - 1 bytes. -/
import Derived.Test.YtdokakhhpcckaaaGv
namespace Go.Proofs.Ytdokakhhpcckaaa.Pure
set_option linter.unusedVariables false
open Go.RowKit Go.Proofs.Ytdokakhhpcckaaa Go.Proofs.Ytdokakhhpcckaaa.MFnPrSpecAgain Go.Proofs.YtdokakhhpcckaaaW.PrintWords Go.Proofs.YtdokakhhpcckaaaW.PrintLast

theorem chain_b (A : Bool → Option (Int × Bool)) (c : UInt8) (v : Int) (hv : v = (c.toNat : Int)) :
    (if v = 32 then A (v == 32) else (if v = 9 then A (v == 9) else (if v = 10 then A (v == 10) else A (v == 13)))) = A (blk c) := by
  subst hv
  have k : ∀ n : Nat, n < 256 → ((c.toNat : Int) = (n : Int) ↔ c = UInt8.ofNat n) := fun n hn => u8e hn
  have k1 : ((c.toNat : Int) = 32 ↔ c = 32) := k 32 (by decide)
  have k2 : ((c.toNat : Int) = 9 ↔ c = 9) := k 9 (by decide)
  have k3 : ((c.toNat : Int) = 10 ↔ c = 10) := k 10 (by decide)
  have k4 : ((c.toNat : Int) = 13 ↔ c = 13) := k 13 (by decide)
  by_cases h1 : c = 32
  · subst h1; rfl
  · rw [if_neg (fun h => h1 (k1.1 h))]
    by_cases h2 : c = 9
    · subst h2; rfl
    · rw [if_neg (fun h => h2 (k2.1 h))]
      by_cases h3 : c = 10
      · subst h3; rfl
      · rw [if_neg (fun h => h3 (k3.1 h))]
        by_cases h4 : c = 13
        · subst h4; rfl
        · have e : ((c.toNat : Int) == 13) = false := by rw [beq_eq_false_iff_ne]; exact fun h => h4 (k4.1 h)
          rw [e]
          have hb : blk c = false := by simp [blk, h1, h2, h3, h4]
          rw [hb]

theorem vcolon_f {t : ByteArray} (hs : t.size ≤ 2147483647) {r : List UInt8} : ∀ (n p : Nat), t.size - p = n → p ≤ t.size → wsL (L t p) = 58 :: r → ∃ q, r = L t q ∧ (p < q ∧ q ≤ t.size) ∧ Ev (fun k => gjson_validcolon.f k (D t) (p : Int)) ((q : Int), true) := by
  intro n
  induction n with
  | zero =>
    intro p hn hp h
    rw [L_nil (by omega)] at h
    cases h
  | succ n ih =>
    intro p hn hp h
    have hlt : p < t.size := by omega
    have hhv : hv t p = (t[p].toNat : Int) := by unfold hv; rw [dif_pos hlt]
    have ch := fun k => chain_b (fun b => gjson_validcolon.j1 k (D t) (p : Int) (hv t p) b) t[p] (hv t p) hhv
    rw [L_cons hlt, wsL_cons] at h
    by_cases hb : blk t[p] = true
    · rw [if_pos hb] at h
      obtain ⟨q, e1, e2, ⟨K, e3⟩⟩ := ih (p + 1) (by omega) (by omega) h
      refine ⟨q, e1, by omega, .succ (.succ ⟨K, fun k hk => ?_⟩)⟩
      have e := e3 k hk
      simp only [gjson_validcolon.f] at e
      simp only [gjson_validcolon.f, gjson_validcolon.l0]
      rw [D_len, rd_D, if_pos (by omega), if_pos (by omega), ch, hb]
      simp only [gjson_validcolon.j1]
      rw [if_pos trivial, w1 (by omega)]
      exact e
    · rw [if_neg hb] at h
      obtain ⟨h1, h2⟩ := List.cons.inj h
      have hb : blk t[p] = false := by simpa using hb
      refine ⟨p + 1, h2.symm, by omega, .succ (.succ (.const fun k => ?_))⟩
      simp only [gjson_validcolon.f, gjson_validcolon.l0]
      rw [D_len, rd_D, if_pos (by omega), if_pos (by omega), ch, hb]
      simp only [gjson_validcolon.j1]
      rw [if_neg (by decide), hhv, h1, if_pos (by rfl), w1 (by omega)]

theorem vcomma_f {t : ByteArray} (hs : t.size ≤ 2147483647) (en c : UInt8) (hc : c = 44 ∨ c = en) {r : List UInt8} : ∀ (n p : Nat), t.size - p = n → p ≤ t.size → wsL (L t p) = c :: r → ∃ q, L t q = c :: r ∧ (p ≤ q ∧ q < t.size) ∧ Ev (fun k => gjson_validcomma.f k (D t) (p : Int) (en.toNat : Int)) ((q : Int), true) := by
  intro n
  induction n with
  | zero =>
    intro p hn hp h
    rw [L_nil (by omega)] at h
    cases h
  | succ n ih =>
    intro p hn hp h
    have hlt : p < t.size := by omega
    have hhv : hv t p = (t[p].toNat : Int) := by unfold hv; rw [dif_pos hlt]
    have ch := fun k => chain_b (fun b => gjson_validcomma.j1 k (D t) (p : Int) (en.toNat : Int) (hv t p) b) t[p] (hv t p) hhv
    rw [L_cons hlt, wsL_cons] at h
    by_cases hb : blk t[p] = true
    · rw [if_pos hb] at h
      obtain ⟨q, e1, e2, ⟨K, e3⟩⟩ := ih (p + 1) (by omega) (by omega) h
      refine ⟨q, e1, by omega, .succ (.succ ⟨K, fun k hk => ?_⟩)⟩
      have e := e3 k hk
      simp only [gjson_validcomma.f] at e
      simp only [gjson_validcomma.f, gjson_validcomma.l0]
      rw [D_len, rd_D, if_pos (by omega), if_pos (by omega), ch, hb]
      simp only [gjson_validcomma.j1]
      rw [if_pos trivial, w1 (by omega)]
      exact e
    · rw [if_neg hb] at h
      have h1 := (List.cons.inj h).1
      have hb : blk t[p] = false := by simpa using hb
      refine ⟨p, by rw [L_cons hlt]; exact h, by omega, .succ (.succ (.const fun k => ?_))⟩
      simp only [gjson_validcomma.f, gjson_validcomma.l0]
      rw [D_len, rd_D, if_pos (by omega), if_pos (by omega), ch, hb]
      simp only [gjson_validcomma.j1]
      rw [if_neg (by decide), hhv, h1]
      by_cases h44 : (c.toNat : Int) = 44
      · rw [if_pos h44]
      · rw [if_neg h44, if_pos]
        rcases hc with rfl | rfl
        · exact absurd rfl h44
        · rfl

theorem w3' {p : Nat} (m : Int) (k : Nat) (hm : m = (k : Int)) (h : p + k ≤ 4294967296) : wrap64 ((p : Int) + m) = ((p + k : Nat) : Int) := by rw [hm, w64 (by omega) (by omega)]; omega

theorem vtru {t : ByteArray} (hs : t.size ≤ 2147483647) {r : List UInt8} (p : Nat) (h : L t p = 114 :: 117 :: 101 :: r) : p + 3 ≤ t.size ∧ r = L t (p + 3) ∧ gjson_validtrue.f (D t) (p : Int) = some (((p + 3 : Nat) : Int), true) := by
  obtain ⟨l0, v0, r0⟩ := L_hv h
  obtain ⟨l1, v1, r1⟩ := L_hv r0.symm
  obtain ⟨l2, v2, r2⟩ := L_hv r1.symm
  refine ⟨by omega, r2, ?_⟩
  unfold gjson_validtrue.f
  rw [D_len, w3' 3 3 rfl (by omega), w1 (by omega), w3' 2 2 rfl (by omega), if_pos (by omega), if_pos (by omega), if_pos (by omega), rd_D, if_pos (show hv t p = 114 from v0), if_pos (by omega), if_pos (by omega), rd_D, if_pos (show hv t (p + 1) = 117 from v1), if_pos (by omega), if_pos (by omega), rd_D, if_pos (show hv t (p + 2) = 101 from v2)]
theorem vnul {t : ByteArray} (hs : t.size ≤ 2147483647) {r : List UInt8} (p : Nat) (h : L t p = 117 :: 108 :: 108 :: r) : p + 3 ≤ t.size ∧ r = L t (p + 3) ∧ gjson_validnull.f (D t) (p : Int) = some (((p + 3 : Nat) : Int), true) := by
  obtain ⟨l0, v0, r0⟩ := L_hv h
  obtain ⟨l1, v1, r1⟩ := L_hv r0.symm
  obtain ⟨l2, v2, r2⟩ := L_hv r1.symm
  refine ⟨by omega, r2, ?_⟩
  unfold gjson_validnull.f
  rw [D_len, w3' 3 3 rfl (by omega), w1 (by omega), w3' 2 2 rfl (by omega), if_pos (by omega), if_pos (by omega), if_pos (by omega), rd_D, if_pos (show hv t p = 117 from v0), if_pos (by omega), if_pos (by omega), rd_D, if_pos (show hv t (p + 1) = 108 from v1), if_pos (by omega), if_pos (by omega), rd_D, if_pos (show hv t (p + 2) = 108 from v2)]
theorem vfls {t : ByteArray} (hs : t.size ≤ 2147483647) {r : List UInt8} (p : Nat) (h : L t p = 97 :: 108 :: 115 :: 101 :: r) : p + 4 ≤ t.size ∧ r = L t (p + 4) ∧ gjson_validfalse.f (D t) (p : Int) = some (((p + 4 : Nat) : Int), true) := by
  obtain ⟨l0, v0, r0⟩ := L_hv h
  obtain ⟨l1, v1, r1⟩ := L_hv r0.symm
  obtain ⟨l2, v2, r2⟩ := L_hv r1.symm
  obtain ⟨l3, v3, r3⟩ := L_hv r2.symm
  refine ⟨by omega, r3, ?_⟩
  unfold gjson_validfalse.f
  rw [D_len, w3' 4 4 rfl (by omega), w1 (by omega), w3' 2 2 rfl (by omega), w3' 3 3 rfl (by omega), if_pos (by omega), if_pos (by omega), if_pos (by omega), rd_D, if_pos (show hv t p = 97 from v0), if_pos (by omega), if_pos (by omega), rd_D, if_pos (show hv t (p + 1) = 108 from v1), if_pos (by omega), if_pos (by omega), rd_D, if_pos (show hv t (p + 2) = 115 from v2), if_pos (by omega), if_pos (by omega), rd_D, if_pos (show hv t (p + 3) = 101 from v3)]
end Go.Proofs.Ytdokakhhpcckaaa.Pure
