/- What spec.Uncommented does, as a relation over the rest of the text, and what spec.comment tells. Condition: the text takes at most 2^31 - 1 bytes. -/
import Derived.Test.YtdokakhhpcckaaaPl
import Derived.Test.YtdokakhhpcckaaaBrow
namespace Go.Proofs.Ytdokakhhpcckaaa.Pure
set_option linter.unusedVariables false
open Go.RowKit Go.Proofs.Ytdokakhhpcckaaa Go.Proofs.Ytdokakhhpcckaaa.MFnPrSpecAgain Go.Proofs.YtdokakhhpcckaaaW.PrintWords Go.Proofs.YtdokakhhpcckaaaW.PrintLast

/-- To the end of the line. -/
def lineE : List UInt8 → List UInt8
  | [] => []
  | c :: m => if c = 10 then c :: m else lineE m
/-- Behind the end of a block comment. -/
def blockE : List UInt8 → Option (List UInt8)
  | [] => none
  | c :: m => match m with
    | [] => none
    | d :: r => if c = 42 ∧ d = 47 then some r else blockE m
/-- Behind a comment, if one begins here. -/
def cmtF : List UInt8 → Option (List UInt8)
  | [] => some []
  | c :: l => if c = 47 then (match l with
      | [] => none
      | d :: m => if d = 47 then some (lineE m) else if d = 42 then blockE m else none)
    else some (c :: l)

theorem lineE_le : ∀ l : List UInt8, (lineE l).length ≤ l.length
  | [] => Nat.le_refl _
  | c :: l => by
    unfold lineE
    split
    · exact Nat.le_refl _
    · have := lineE_le l
      simp only [List.length_cons]
      omega
theorem blockE_cons (c d : UInt8) (r : List UInt8) : blockE (c :: d :: r) = if c = 42 ∧ d = 47 then some r else blockE (d :: r) := rfl
theorem blockE_lt : ∀ (n : Nat) (l r : List UInt8), l.length ≤ n → blockE l = some r → r.length + 2 ≤ l.length
  | _, [], _, _, h => by cases h
  | _, [_], _, _, h => by cases h
  | 0, _ :: _ :: _, _, hn, _ => by simp at hn
  | n + 1, c :: d :: l, r, hn, h => by
    rw [blockE_cons] at h
    split at h
    · obtain rfl := Option.some.inj h
      simp
    · have := blockE_lt n (d :: l) r (by simp only [List.length_cons] at hn ⊢; omega) h
      simp only [List.length_cons] at this ⊢
      omega

theorem bt_is {t : ByteArray} {p : Nat} (hp : p < t.size) (n : Nat) (hn : n < 256) : (bt t (p : Int) = (n : Int)) ↔ t[p] = UInt8.ofNat n := by
  rw [bt_nat hp]
  exact u8e hn

theorem bt_10 {t : ByteArray} {p : Nat} (hp : p < t.size) : (bt t (p : Int) = 10) ↔ t[p] = 10 := bt_is hp 10 (by decide)
theorem bt_42 {t : ByteArray} {p : Nat} (hp : p < t.size) : (bt t (p : Int) = 42) ↔ t[p] = 42 := bt_is hp 42 (by decide)
theorem bt_47 {t : ByteArray} {p : Nat} (hp : p < t.size) : (bt t (p : Int) = 47) ↔ t[p] = 47 := bt_is hp 47 (by decide)
theorem cmt_line {t : ByteArray} (hs : t.size ≤ 2147483647) (p0 : Nat) (h1 : p0 + 1 < t.size) (hd : bt t ((p0 + 1 : Nat) : Int) = 47) :
    ∀ (n p : Nat), t.size - p = n → p0 + 2 ≤ p → p ≤ t.size → ∃ q : Nat, Ev (fun k => spec_comment.l0 k t (p0 : Int) (p : Int)) ((q : Int), true) ∧ (p ≤ q ∧ q ≤ t.size) ∧ L t q = lineE (L t p) := by
  intro n
  induction n with
  | zero =>
    intro p hn hp0 hp
    have hpe : p = t.size := by omega
    refine ⟨p, .succ (.const fun k => by simp only [spec_comment.l0]; rw [if_neg (by omega), w1 (by omega), if_pos (by omega), if_pos (by omega), hd, hpe]; rfl), ⟨Nat.le_refl _, hp⟩, ?_⟩
    rw [L_nil (by omega)]
    rfl
  | succ n ih =>
    intro p hn hp0 hp
    have hlt : p < t.size := by omega
    by_cases h10 : bt t (p : Int) = 10
    · refine ⟨p, .succ (.succ (.const fun k => by simp only [spec_comment.l0, spec_comment.j2]; rw [if_pos (by omega), w1 (by omega), if_pos (by omega), if_pos (by omega), if_pos hd, if_pos (by omega), h10]; rfl)), ⟨Nat.le_refl _, hp⟩, ?_⟩
      rw [L_cons hlt]
      conv => rhs; unfold lineE
      rw [if_pos ((bt_10 hlt).1 h10)]
    · obtain ⟨q, ⟨K, hq⟩, hN, hL⟩ := ih (p + 1) (by omega) (by omega) (by omega)
      have hb : (bt t (p : Int) == 10) = false := by simpa using h10
      refine ⟨q, .succ (.succ ⟨K, fun k hk => by have e := hq k hk; simp only at e; simp only [spec_comment.l0, spec_comment.j2]; rw [if_pos (by omega), w1 (by omega), if_pos (by omega), if_pos (by omega), if_pos hd, if_pos (by omega), hb, if_neg (by decide), if_pos (by omega), if_pos (by omega), if_neg (by omega), w1 (by omega)]; exact e⟩), by omega, ?_⟩
      rw [hL, L_cons hlt]
      conv => rhs; unfold lineE
      rw [if_neg (fun e => h10 ((bt_10 hlt).2 e))]

theorem cmt_block {t : ByteArray} (hs : t.size ≤ 2147483647) (p0 : Nat) (h1 : p0 + 1 < t.size) (hd : bt t ((p0 + 1 : Nat) : Int) = 42) :
    ∀ (n p : Nat), t.size - p = n → p0 + 2 ≤ p → p ≤ t.size → ∃ (q : Nat) (b : Bool), Ev (fun k => spec_comment.l0 k t (p0 : Int) (p : Int)) ((q : Int), b) ∧ (b = true → (p ≤ q ∧ q ≤ t.size) ∧ (p = p0 + 2 → blockE (L t p) = some (L t q)) ∧ (p0 + 2 < p → blockE (L t (p - 1)) = some (L t q))) := by
  intro n
  induction n with
  | zero =>
    intro p hn hp0 hp
    have hpe : p = t.size := by omega
    exact ⟨p, false, .succ (.const fun k => by simp only [spec_comment.l0]; rw [if_neg (by omega), w1 (by omega), if_pos (by omega), if_pos (by omega), hd, hpe]; rfl), fun h => by cases h⟩
  | succ n ih =>
    intro p hn hp0 hp
    have hlt : p < t.size := by omega
    obtain ⟨q, b, ⟨K, hq⟩, hN⟩ := ih (p + 1) (by omega) (by omega) (by omega)
    have hw2 : wrap64 ((p0 : Int) + 2) = ((p0 + 2 : Nat) : Int) := by rw [w64 (by omega) (by omega)]; omega
    by_cases hfirst : p = p0 + 2
    · refine ⟨q, b, .succ (.succ ⟨K, fun k hk => ?_⟩), fun hb => ?_⟩
      · have e := hq k hk
        simp only at e
        simp only [spec_comment.l0, spec_comment.j2]
        rw [if_pos (by omega), w1 (p := p0) (by omega), if_pos (by omega), if_pos (by omega), if_neg (by omega), if_neg (by decide), if_pos (by omega), if_pos (by omega), if_pos hd, hw2, if_neg (by omega), w1 (p := p) (by omega)]
        exact e
      · obtain ⟨a, _, c⟩ := hN hb
        have := c (by omega)
        rw [Nat.add_sub_cancel] at this
        exact ⟨by omega, fun _ => this, fun h => by omega⟩
    · have hp1 : p - 1 < t.size := by omega
      have hm1 : wrap64 ((p : Int) - 1) = ((p - 1 : Nat) : Int) := by rw [w64 (by omega) (by omega)]; omega
      have hwin : L t (p - 1) = t[p - 1] :: t[p] :: L t (p + 1) := by
        rw [L_cons hp1]
        congr 1
        rw [show p - 1 + 1 = p by omega, L_cons hlt]
      by_cases h42 : bt t ((p - 1 : Nat) : Int) = 42
      · by_cases h47 : bt t (p : Int) = 47
        · refine ⟨p + 1, true, .succ (.succ (.const fun k => ?_)), fun _ => ⟨by omega, fun h => absurd h hfirst, fun _ => ?_⟩⟩
          · simp only [spec_comment.l0, spec_comment.j2]
            rw [if_pos (by omega), w1 (p := p0) (by omega), if_pos (by omega), if_pos (by omega), if_neg (by omega), if_neg (by decide), if_pos (by omega), if_pos (by omega), if_pos hd, hw2, if_pos (by omega), hm1, if_pos (by omega), if_pos (by omega), if_pos h42, if_pos (by omega), if_pos (by omega), if_pos h47, w1 (p := p) (by omega)]
          · rw [hwin, blockE_cons, if_pos ⟨(bt_42 hp1).1 h42, (bt_47 hlt).1 h47⟩]
        · refine ⟨q, b, .succ (.succ ⟨K, fun k hk => ?_⟩), fun hb => ?_⟩
          · have e := hq k hk
            simp only at e
            simp only [spec_comment.l0, spec_comment.j2]
            rw [if_pos (by omega), w1 (p := p0) (by omega), if_pos (by omega), if_pos (by omega), if_neg (by omega), if_neg (by decide), if_pos (by omega), if_pos (by omega), if_pos hd, hw2, if_pos (by omega), hm1, if_pos (by omega), if_pos (by omega), if_pos h42, if_pos (by omega), if_pos (by omega), if_neg h47, w1 (p := p) (by omega)]
            exact e
          · obtain ⟨a, _, c⟩ := hN hb
            have h2 := c (by omega)
            rw [Nat.add_sub_cancel, L_cons hlt] at h2
            exact ⟨by omega, fun h => absurd h hfirst, fun _ => by rw [hwin, blockE_cons, if_neg (fun h => h47 ((bt_47 hlt).2 h.2))]; exact h2⟩
      · refine ⟨q, b, .succ (.succ ⟨K, fun k hk => ?_⟩), fun hb => ?_⟩
        · have e := hq k hk
          simp only at e
          simp only [spec_comment.l0, spec_comment.j2]
          rw [if_pos (by omega), w1 (p := p0) (by omega), if_pos (by omega), if_pos (by omega), if_neg (by omega), if_neg (by decide), if_pos (by omega), if_pos (by omega), if_pos hd, hw2, if_pos (by omega), hm1, if_pos (by omega), if_pos (by omega), if_neg h42, w1 (p := p) (by omega)]
          exact e
        · obtain ⟨a, _, c⟩ := hN hb
          have h2 := c (by omega)
          rw [Nat.add_sub_cancel, L_cons hlt] at h2
          exact ⟨by omega, fun h => absurd h hfirst, fun _ => by rw [hwin, blockE_cons, if_neg (fun h => h42 ((bt_42 hp1).2 h.1))]; exact h2⟩

theorem cmtF_47 (d : UInt8) (m : List UInt8) : cmtF (47 :: d :: m) = if d = 47 then some (lineE m) else if d = 42 then blockE m else none := rfl
theorem cmtF_other {c : UInt8} (l : List UInt8) (h : c ≠ 47) : cmtF (c :: l) = some (c :: l) := by
  unfold cmtF
  simp only
  rw [if_neg h]

theorem cmt_f {t : ByteArray} (hs : t.size ≤ 2147483647) (p : Nat) (hp : p < t.size) : ∃ (q : Nat) (b : Bool), Ev (fun k => spec_comment.f k t (p : Int)) ((q : Int), b) ∧
    (b = true → (p ≤ q ∧ q ≤ t.size) ∧ cmtF (L t p) = some (L t q) ∧ (t[p] = 47 → p < q) ∧ (t[p] ≠ 47 → q = p)) := by
  by_cases h47 : bt t (p : Int) = 47
  · have e47 := (bt_47 hp).1 h47
    by_cases hend : p + 1 = t.size
    · refine ⟨p, false, .succ (.const fun k => ?_), fun h => by cases h⟩
      simp only [spec_comment.f, spec_comment.j0]
      rw [if_pos (by omega), if_pos (by omega), if_pos h47, w1 (by omega), if_pos (by omega)]
      rfl
    · have h1 : p + 1 < t.size := by omega
      have hw2 : wrap64 ((p : Int) + 2) = ((p + 2 : Nat) : Int) := by rw [w64 (by omega) (by omega)]; omega
      have hL : L t p = 47 :: t[p + 1] :: L t (p + 2) := by rw [L_cons hp, L_cons h1, e47]
      by_cases ha : bt t ((p + 1 : Nat) : Int) = 47
      · obtain ⟨q, ⟨K, hq⟩, hN, hq2⟩ := cmt_line hs p h1 ha _ (p + 2) rfl (Nat.le_refl _) (by omega)
        refine ⟨q, true, .succ ⟨K, fun k hk => ?_⟩, fun _ => ⟨by omega, ?_, fun _ => by omega, fun h => absurd e47 h⟩⟩
        · have e := hq k hk
          simp only at e
          simp only [spec_comment.f, spec_comment.j0]
          rw [if_pos (by omega), if_pos (by omega), if_pos h47, w1 (by omega), if_neg (by omega), if_pos (by omega), if_pos (by omega), if_pos ha, if_neg (by decide), hw2]
          exact e
        · rw [hL, cmtF_47, if_pos ((bt_47 h1).1 ha), hq2]
      · by_cases hb : bt t ((p + 1 : Nat) : Int) = 42
        · obtain ⟨q, b, ⟨K, hq⟩, hN⟩ := cmt_block hs p h1 hb _ (p + 2) rfl (Nat.le_refl _) (by omega)
          have hbb : (bt t ((p + 1 : Nat) : Int) != 42) = false := by simpa using hb
          refine ⟨q, b, .succ ⟨K, fun k hk => ?_⟩, fun hbt => ?_⟩
          · have e := hq k hk
            simp only at e
            simp only [spec_comment.f, spec_comment.j0]
            rw [if_pos (by omega), if_pos (by omega), if_pos h47, w1 (by omega), if_neg (by omega), if_pos (by omega), if_pos (by omega), if_neg ha, hbb, if_neg (by decide), hw2]
            exact e
          · obtain ⟨n1, n2, _⟩ := hN hbt
            exact ⟨by omega, by rw [hL, cmtF_47, if_neg (fun e => ha ((bt_47 h1).2 e)), if_pos ((bt_42 h1).1 hb)]; exact n2 rfl, fun _ => by omega, fun h => absurd e47 h⟩
        · have hbb : (bt t ((p + 1 : Nat) : Int) != 42) = true := by simpa using hb
          refine ⟨p, false, .succ (.const fun k => ?_), fun h => by cases h⟩
          simp only [spec_comment.f, spec_comment.j0]
          rw [if_pos (by omega), if_pos (by omega), if_pos h47, w1 (by omega), if_neg (by omega), if_pos (by omega), if_pos (by omega), if_neg ha, hbb]
          rfl
  · have n47 : t[p] ≠ 47 := fun e => h47 ((bt_47 hp).2 e)
    refine ⟨p, true, .const fun k => ?_, fun _ => ⟨⟨Nat.le_refl _, by omega⟩, ?_, fun h => absurd h n47, fun _ => rfl⟩⟩
    · simp only [spec_comment.f]
      rw [if_pos (by omega), if_pos (by omega), if_neg h47]
    · rw [L_cons hp, cmtF_other _ n47]

/-- A byte of a comment, told. -/
def bl (c : UInt8) : UInt8 := if c = 10 then 10 else 32
/-- The bytes from p to i blanked. -/
def blankTo (out : List UInt8) (p i : Nat) : List UInt8 := out.take p ++ ((out.drop p).take (i - p)).map bl ++ out.drop i

/-- The work of Uncommented from place p on: what its row of bytes becomes. -/
inductive UncR (t : ByteArray) : List UInt8 → Int → Nat → List UInt8 → Prop
  | fin (out : List UInt8) (last : Int) (p : Nat) : ¬ p < t.size → UncR t out last p out
  | cmt (out : List UInt8) (last : Int) (p q : Nat) (F : List UInt8) (h : p < t.size) : t[p] = 47 → cmtF (L t p) = some (L t q) → p < q ∧ q ≤ t.size → UncR t (blankTo out p q) last q F → UncR t out last p F
  | str (out : List UInt8) (last : Int) (p q : Nat) (s F : List UInt8) : L t p = 34 :: s → StrIn s (L t q) → p < q ∧ q ≤ t.size → UncR t out (p : Int) q F → UncR t out last p F
  | cls (out : List UInt8) (last : Int) (j p : Nat) (F : List UInt8) (h : p < t.size) (hj : j < t.size) : (t[p] = 125 ∨ t[p] = 93) → last = (j : Int) → t[j] = 44 → UncR t (out.set j 32) (p : Int) (p + 1) F → UncR t out last p F
  | oth (out : List UInt8) (last : Int) (p : Nat) (F : List UInt8) (h : p < t.size) : t[p] ≠ 47 → t[p] ≠ 34 → ¬ ((t[p] = 125 ∨ t[p] = 93) ∧ ∃ (j : Nat) (hj : j < t.size), last = (j : Int) ∧ t[j] = 44) → UncR t out (if blk t[p] = true then last else (p : Int)) (p + 1) F → UncR t out last p F
end Go.Proofs.Ytdokakhhpcckaaa.Pure
