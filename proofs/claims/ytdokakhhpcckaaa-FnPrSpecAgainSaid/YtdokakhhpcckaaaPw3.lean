/- pretty's Spec, the printed list function, told forwards. Condition: the text takes at most 2^31 - 1 bytes. -/
import Derived.Test.YtdokakhhpcckaaaPw2
namespace Go.Proofs.Ytdokakhhpcckaaa.Pure
set_option linter.unusedVariables false
open Go.RowKit Go.Proofs.Ytdokakhhpcckaaa Go.Proofs.Ytdokakhhpcckaaa.MFnPrSpecAgain Go.Proofs.YtdokakhhpcckaaaW.PrintWords Go.Proofs.YtdokakhhpcckaaaW.PrintLast

theorem w64s {n : Int} (h : -9223372036854775808 ≤ n) (h2 : n ≤ 9223372036854775807) : wrap64 n = n := by unfold wrap64; omega
theorem tm2 (k : Nat) : Int.tmod (-(k : Int)) 2 = 0 ↔ k % 2 = 0 := by
  rw [Int.neg_tmod]
  have h : Int.tmod (k : Int) 2 = ((k % 2 : Nat) : Int) := rfl
  rw [h]
  omega
def I (l : List UInt8) : List Int := l.map fun b => (b.toNat : Int)
theorem I_len (l : List UInt8) : (I l).length = l.length := by unfold I; rw [List.length_map]
theorem I_app (a b : List UInt8) : I (a ++ b) = I a ++ I b := by unfold I; rw [List.map_append]
theorem D_I (t : ByteArray) : D t = I t.data.toList := rfl
theorem rd_I (a : List UInt8) (c : UInt8) (b : List UInt8) : rd (I (a ++ c :: b)) (a.length : Int) = (c.toNat : Int) := by
  unfold rd I
  rw [Int.toNat_natCast, List.getD_eq_getElem?_getD, List.getElem?_map, List.getElem?_append_right (Nat.le_refl _), Nat.sub_self]
  rfl
theorem set_I (a : List UInt8) (c d : UInt8) (b : List UInt8) : (I (a ++ c :: b)).set ((a.length : Nat) : Int).toNat (d.toNat : Int) = I (a ++ d :: b) := by
  rw [Int.toNat_natCast, I_app, I_app, List.set_append_right _ _ (by rw [I_len]; exact Nat.le_refl _), I_len, Nat.sub_self]
  rfl

def fixr : List UInt8 → List UInt8
  | [] => []
  | c :: d => if c.toNat ≤ 32 then c :: fixr d else if c = 44 then 32 :: d else c :: d
/-- The last byte above U+0020 blanked, if it is a comma. -/
def fix (d : List UInt8) : List UInt8 := (fixr d.reverse).reverse
theorem fix_nil : fix [] = [] := rfl
theorem fix_snoc (d : List UInt8) (c : UInt8) : fix (d ++ [c]) = if c.toNat ≤ 32 then fix d ++ [c] else if c = 44 then d ++ [32] else d ++ [c] := by
  unfold fix
  rw [List.reverse_append, List.reverse_singleton, List.singleton_append]
  conv => lhs; unfold fixr
  split
  · rw [List.reverse_cons]
  · split
    · rw [List.reverse_cons, List.reverse_reverse]
    · rw [List.reverse_cons, List.reverse_reverse]
theorem fix_len : ∀ (n : Nat) (d : List UInt8), d.length = n → (fix d).length = n := by
  have key : ∀ d : List UInt8, (fixr d).length = d.length := by
    intro d
    induction d with
    | nil => rfl
    | cons c d ih =>
      unfold fixr
      split
      · simp only [List.length_cons, ih]
      · split <;> simp only [List.length_cons]
  intro n d h
  unfold fix
  rw [List.length_reverse, key, List.length_reverse, h]
theorem fix_app {d : List UInt8} : ∀ {s : List UInt8}, (∀ c ∈ s, c.toNat ≤ 32) → fix (d ++ s) = fix d ++ s := by
  intro s
  induction s generalizing d with
  | nil => intro _; rw [List.append_nil, List.append_nil]
  | cons c s ih =>
    intro h
    rw [show d ++ c :: s = (d ++ [c]) ++ s by rw [List.append_assoc]; rfl, ih fun x hx => h x (List.mem_cons_of_mem _ hx), fix_snoc, if_pos (h c (List.mem_cons_self ..)), List.append_assoc]
    rfl
theorem blk_le {c : UInt8} (h : blk c = true) : c.toNat ≤ 32 := by rcases blk_four h with e | e | e | e <;> subst e <;> decide

section
variable {t : ByteArray}

theorem p_l5 (hs : t.size ≤ 2147483647) (p : Nat) (hp : p < t.size) (z : List Int) : ∀ (n : Nat) (d tail : List UInt8), d.length = n → d.length + tail.length ≤ 4294967296 →
    Ev (fun k => pretty_spec.l0 k (D t) (I (fix d ++ tail)) ((p + 1 : Nat) : Int)) z → Ev (fun k => pretty_spec.l5 k (D t) (I (d ++ tail)) (p : Int) ((n : Int) - 1)) z := by
  intro n
  induction n with
  | zero =>
    intro d tail hd hl h
    obtain rfl := List.eq_nil_of_length_eq_zero hd
    refine .succ (h.congr fun k => ?_)
    simp only [pretty_spec.l5]
    rw [if_neg (by omega), w1 (by omega)]
    rfl
  | succ n ih =>
    intro d tail hd hl h
    obtain ⟨d', c, rfl⟩ : ∃ d' c, d = d' ++ [c] := ⟨d.dropLast, d.getLast (fun e => by rw [e] at hd; cases hd), (List.dropLast_concat_getLast _).symm⟩
    have hd' : d'.length = n := by rw [List.length_append, List.length_singleton] at hd; omega
    have he : d' ++ [c] ++ tail = d' ++ c :: tail := by rw [List.append_assoc]; rfl
    have hrd : rd (I (d' ++ c :: tail)) (((n + 1 : Nat) : Int) - 1) = (c.toNat : Int) := by
      rw [show ((n + 1 : Nat) : Int) - 1 = (d'.length : Int) by omega]
      exact rd_I d' c tail
    have hlen : (I (d' ++ c :: tail)).length = n + 1 + tail.length := by rw [I_len, List.length_append, List.length_cons]; omega
    rw [fix_snoc] at h
    rw [he]
    by_cases h32 : c.toNat ≤ 32
    · rw [if_pos h32] at h
      have h2 := ih d' (c :: tail) hd' (by rw [List.length_cons]; rw [List.length_append, List.length_singleton] at hl; omega) (by rw [List.append_assoc] at h; exact h)
      refine .succ (h2.congr fun k => ?_)
      simp only [pretty_spec.l5]
      rw [if_pos (by omega), if_pos (by omega), hlen, if_pos (by omega), hrd, if_pos (by omega), w64s (by omega) (by omega), show ((n + 1 : Nat) : Int) - 1 - 1 = (n : Int) - 1 by omega]
    · rw [if_neg h32] at h
      by_cases h44 : c = 44
      · subst h44
        rw [if_pos rfl, List.append_assoc] at h
        refine .succ (h.congr fun k => ?_)
        simp only [pretty_spec.l5]
        rw [if_pos (by omega), if_pos (by omega), hlen, if_pos (by omega), hrd, if_neg (by omega), if_pos (by rfl), w1 (by omega), show ((n + 1 : Nat) : Int) - 1 = (d'.length : Int) by omega, show (32 : Int) = ((32 : UInt8).toNat : Int) from rfl, set_I]
        rfl
      · rw [if_neg h44, List.append_assoc] at h
        refine .succ (h.congr fun k => ?_)
        simp only [pretty_spec.l5]
        rw [if_pos (by omega), if_pos (by omega), hlen, if_pos (by omega), hrd, if_neg (by omega), if_neg (show ¬ (c.toNat : Int) = 44 from fun e => h44 ((u8e (n := 44) (by decide)).1 e)), w1 (by omega)]
        rfl

theorem I_snoc (d : List UInt8) (c : UInt8) : I d ++ [(c.toNat : Int)] = I (d ++ [c]) := by rw [I_app]; rfl

/-- One byte is put down, no mark of a string or a bracket. -/
theorem p_push (hs : t.size ≤ 2147483647) {p : Nat} {c : UInt8} {l : List UInt8} (hl : L t p = c :: l) (h47 : c ≠ 47) (h34 : c ≠ 34) (h125 : c ≠ 125) (h93 : c ≠ 93) (d : List UInt8) (hd : d.length ≤ 4294967296) (z : List Int) :
    Ev (fun k => pretty_spec.l0 k (D t) (I (d ++ [c])) ((p + 1 : Nat) : Int)) z → Ev (fun k => pretty_spec.l0 k (D t) (I d) (p : Int)) z := by
  intro h
  obtain ⟨hlt, hv1, _⟩ := L_hv hl
  have n (m : Nat) (hm : m < 256) (hc : c ≠ UInt8.ofNat m) : ¬ hv t p = (m : Int) := by rw [hv1]; exact fun e => hc ((u8e hm).1 e)
  have b93 : (hv t p == 93) = false := by rw [beq_eq_false_iff_ne]; exact n 93 (by decide) h93
  have n47 : ¬ hv t p = 47 := n 47 (by decide) h47
  have n34 : ¬ hv t p = 34 := n 34 (by decide) h34
  have n125 : ¬ hv t p = 125 := n 125 (by decide) h125
  refine .succ (.succ (.succ (h.congr fun k => ?_)))
  simp only [pretty_spec.l0, pretty_spec.j4, pretty_spec.j7]
  rw [D_len, rd_D, if_pos (by omega), if_pos (by omega), if_neg n47, I_len, if_pos (by omega), if_pos (by omega), if_pos (by omega), Option.bind_some, if_neg n34, if_neg n125, b93, if_neg (by decide), w1 (by omega), hv1, I_snoc]
theorem p_close (hs : t.size ≤ 2147483647) {p : Nat} {c : UInt8} {l : List UInt8} (hl : L t p = c :: l) (hc : c = 125 ∨ c = 93) (d : List UInt8) (hd : d.length ≤ 4294967290) (z : List Int) :
    Ev (fun k => pretty_spec.l0 k (D t) (I (fix d ++ [c])) ((p + 1 : Nat) : Int)) z → Ev (fun k => pretty_spec.l0 k (D t) (I d) (p : Int)) z := by
  intro h
  obtain ⟨hlt, hv1, _⟩ := L_hv hl
  have h5 := p_l5 hs p hlt z d.length d [c] rfl (by rw [List.length_singleton]; omega) h
  have hcv : hv t p = 125 ∨ hv t p = 93 := by rw [hv1]; rcases hc with e | e <;> subst e; exact .inl rfl; exact .inr rfl
  refine .succ (.succ (.succ (h5.congr fun k => ?_)))
  simp only [pretty_spec.l0, pretty_spec.j4, pretty_spec.j7]
  have hw : wrap64 (((I (d ++ [c])).length : Int) - 2) = (d.length : Int) - 1 := by
    rw [I_len, List.length_append, List.length_singleton]
    unfold wrap64
    omega
  rcases hcv with e | e
  · rw [D_len, rd_D, if_pos (by omega), if_pos (by omega), if_neg (by omega), I_len, if_pos (by omega), if_pos (by omega), if_pos (by omega), Option.bind_some, if_neg (by omega), if_pos e, if_pos trivial, hv1, I_snoc, hw]
  · rw [D_len, rd_D, if_pos (by omega), if_pos (by omega), if_neg (by omega), I_len, if_pos (by omega), if_pos (by omega), if_pos (by omega), Option.bind_some, if_neg (by omega), if_neg (by omega), e]
    rw [show ((93 : Int) == 93) = true from rfl, if_pos rfl, show I d ++ [(93 : Int)] = I (d ++ [c]) by rw [← I_snoc, ← hv1, e], hw]

/-- How many backslashes stand just ahead of place i. -/
def bsr (t : ByteArray) : Nat → Nat
  | 0 => 0
  | i + 1 => if hv t i = 92 then bsr t i + 1 else 0

theorem p_l4 (hs : t.size ≤ 2147483647) (s0 : Nat) (h34 : hv t s0 = 34) (i : Nat) (hi : i < t.size) (x1 : List Int) (z : List Int) : ∀ (m : Nat), s0 < m → m ≤ i →
    ((i - m + bsr t m) % 2 = 1 → Ev (fun k => pretty_spec.l3 k (D t) x1 ((i + 1 : Nat) : Int)) z) → ((i - m + bsr t m) % 2 = 0 → Ev (fun k => pretty_spec.l0 k (D t) x1 ((i + 1 : Nat) : Int)) z) →
    Ev (fun k => pretty_spec.l4 k (D t) x1 (i : Int) ((m : Int) - 1)) z := by
  intro m
  induction m with
  | zero => intro h; omega
  | succ m ih =>
    intro hm hmi ho he
    have e1 : ((m + 1 : Nat) : Int) - 1 = (m : Int) := by omega
    rw [show bsr t (m + 1) = if hv t m = 92 then bsr t m + 1 else 0 from rfl] at ho he
    by_cases h92 : hv t m = 92
    · have hms : s0 < m := by
        rcases Nat.lt_or_ge s0 m with h | h
        · exact h
        · have : m = s0 := by omega
          rw [this, h34] at h92
          cases h92
      rw [if_pos h92] at ho he
      refine .succ ((ih hms (by omega) (fun h => ho (by omega)) (fun h => he (by omega))).congr fun k => ?_)
      simp only [pretty_spec.l4]
      rw [e1, D_len, rd_D, if_pos (by omega), if_pos (by omega), if_pos h92, w64s (by omega) (by omega)]
    · rw [if_neg h92] at ho he
      have hw : wrap64 ((m : Int) - (i : Int)) = -((i - m : Nat) : Int) := by rw [w64s (by omega) (by omega)]; omega
      by_cases hpar : (i - (m + 1) + 0) % 2 = 1
      · refine .succ ((ho hpar).congr fun k => ?_)
        simp only [pretty_spec.l4]
        rw [e1, D_len, rd_D, if_pos (by omega), if_pos (by omega), if_neg h92, hw, if_pos ((tm2 _).2 (by omega)), w1 (by omega)]
      · refine .succ ((he (by omega)).congr fun k => ?_)
        simp only [pretty_spec.l4]
        rw [e1, D_len, rd_D, if_pos (by omega), if_pos (by omega), if_neg h92, hw, if_neg (fun h => by have := (tm2 _).1 h; omega), w1 (by omega)]

/-- In a string: a byte that is no quotation mark, or one behind an odd number of backslashes. -/
theorem p_in (hs : t.size ≤ 2147483647) (s0 : Nat) (h34 : hv t s0 = 34) {i : Nat} (hsi : s0 < i) {c : UInt8} {l : List UInt8} (hl : L t i = c :: l) (hc : c = 34 → bsr t i % 2 = 1) (d : List UInt8) (hd : d.length ≤ 4294967296) (z : List Int) :
    Ev (fun k => pretty_spec.l3 k (D t) (I (d ++ [c])) ((i + 1 : Nat) : Int)) z → Ev (fun k => pretty_spec.l3 k (D t) (I d) (i : Int)) z := by
  intro h
  obtain ⟨hlt, hv1, _⟩ := L_hv hl
  by_cases e34 : c = 34
  · have hpar := hc e34
    have h4 := p_l4 hs s0 h34 i hlt (I (d ++ [c])) z i hsi (Nat.le_refl _) (fun _ => h) (fun h => by omega)
    refine .succ (h4.congr fun k => ?_)
    simp only [pretty_spec.l3]
    rw [D_len, rd_D, if_pos (by omega), if_pos (by omega), I_len, if_pos (by omega), Option.bind_some, hv1, if_pos (by rw [e34]; rfl), I_snoc, w64s (by omega) (by omega)]
  · refine .succ (h.congr fun k => ?_)
    simp only [pretty_spec.l3]
    rw [D_len, rd_D, if_pos (by omega), if_pos (by omega), I_len, if_pos (by omega), Option.bind_some, hv1, if_neg (show ¬ (c.toNat : Int) = 34 from fun e => e34 ((u8e (n := 34) (by decide)).1 e)), I_snoc, w1 (by omega)]

theorem p_str (hs : t.size ≤ 2147483647) (s0 : Nat) (h34 : hv t s0 = 34) {l r : List UInt8} (h : StrIn l r) : ∀ (i : Nat) (d : List UInt8), l = L t i → s0 < i → bsr t i % 2 = 0 → d.length = i →
    ∃ u q, l = u ++ r ∧ r = L t q ∧ (i < q ∧ q ≤ t.size) ∧ ∀ z, Ev (fun k => pretty_spec.l0 k (D t) (I (d ++ u)) (q : Int)) z → Ev (fun k => pretty_spec.l3 k (D t) (I d) (i : Int)) z := by
  have bs1 : ∀ i, hv t i ≠ 92 → bsr t (i + 1) = 0 := fun i h => by rw [show bsr t (i + 1) = if hv t i = 92 then bsr t i + 1 else 0 from rfl, if_neg h]
  have bs2 : ∀ i, hv t i = 92 → bsr t (i + 1) = bsr t i + 1 := fun i h => by rw [show bsr t (i + 1) = if hv t i = 92 then bsr t i + 1 else 0 from rfl, if_pos h]
  induction h with
  | close r =>
    intro i d hl hsi hpar hd
    obtain ⟨hlt, hv1, hr⟩ := L_hv hl.symm
    have hv1 : hv t i = 34 := hv1
    refine ⟨[34], i + 1, rfl, hr, by omega, fun z hz => ?_⟩
    have h4 := p_l4 hs s0 h34 i hlt (I (d ++ [34])) z i hsi (Nat.le_refl _) (fun h => by omega) (fun _ => hz)
    refine .succ (h4.congr fun k => ?_)
    simp only [pretty_spec.l3]
    rw [D_len, rd_D, if_pos (by omega), if_pos (by omega), I_len, if_pos (by omega), Option.bind_some, hv1, if_pos rfl, w64s (by omega) (by omega)]
    rw [show I d ++ [(34 : Int)] = I (d ++ [34]) from (I_snoc d 34)]
  | one c l r h1 h2 h3 _ ih =>
    intro i d hl hsi hpar hd
    obtain ⟨hlt, hv1, hr⟩ := L_hv hl.symm
    have n92 : hv t i ≠ 92 := by rw [hv1]; exact fun e => h2 ((u8e (n := 92) (by decide)).1 e)
    obtain ⟨u, q, e1, e2, e3, e4⟩ := ih (i + 1) (d ++ [c]) hr (by omega) (by rw [bs1 i n92]) (by rw [List.length_append, List.length_singleton]; omega)
    refine ⟨c :: u, q, by rw [e1]; rfl, e2, by omega, fun z hz => ?_⟩
    refine p_in hs s0 h34 hsi hl.symm (fun e => absurd e h1) d (by omega) z (e4 z ?_)
    rw [List.append_assoc]
    exact hz
  | esc c l r hc _ ih =>
    intro i d hl hsi hpar hd
    obtain ⟨hlt, hv1, hr⟩ := L_hv hl.symm
    obtain ⟨hlt2, hv2, hr2⟩ := L_hv hr.symm
    have hv1 : hv t i = 92 := hv1
    have hb1 := bs2 i hv1
    have hb2 : bsr t (i + 1 + 1) % 2 = 0 := by
      by_cases e : hv t (i + 1) = 92
      · rw [bs2 _ e, hb1]; omega
      · rw [bs1 _ e]
    obtain ⟨u, q, e1, e2, e3, e4⟩ := ih (i + 1 + 1) (d ++ [92] ++ [c]) hr2 (by omega) hb2 (by rw [List.length_append, List.length_append, List.length_singleton, List.length_singleton]; omega)
    refine ⟨92 :: c :: u, q, by rw [e1]; rfl, e2, by omega, fun z hz => ?_⟩
    refine p_in hs s0 h34 hsi hl.symm (fun e => by cases e) d (by omega) z (p_in hs s0 h34 (by omega) hr.symm (fun _ => by rw [hb1]; omega) (d ++ [92]) (by rw [List.length_append, List.length_singleton]; omega) z (e4 z ?_))
    rw [List.append_assoc, List.append_assoc]
    exact hz
  | uni a b c e l r ha hb hc he _ ih =>
    intro i d hl hsi hpar hd
    have hx : ∀ x : UInt8, hexc x = true → x ≠ 34 ∧ x ≠ 92 := by
      intro x h
      unfold hexc at h
      have h := of_decide_eq_true h
      exact ⟨fun e => by rw [e] at h; exact absurd h (by decide), fun e => by rw [e] at h; exact absurd h (by decide)⟩
    obtain ⟨hlt, hv1, hr⟩ := L_hv hl.symm
    obtain ⟨hlt2, hv2, hr2⟩ := L_hv hr.symm
    obtain ⟨hlta, hva, hra⟩ := L_hv hr2.symm
    obtain ⟨hltb, hvb, hrb⟩ := L_hv hra.symm
    obtain ⟨hltc, hvc, hrc⟩ := L_hv hrb.symm
    obtain ⟨hltd, hvd, hrd⟩ := L_hv hrc.symm
    have n92 : hv t (i + 1 + 1 + 1 + 1 + 1) ≠ 92 := by rw [hvd]; exact fun x => (hx e he).2 ((u8e (n := 92) (by decide)).1 x)
    obtain ⟨u, q, e1, e2, e3, e4⟩ := ih (i + 1 + 1 + 1 + 1 + 1 + 1) (d ++ [92] ++ [117] ++ [a] ++ [b] ++ [c] ++ [e]) hrd (by omega) (by rw [bs1 _ n92]) (by simp only [List.length_append, List.length_singleton]; omega)
    refine ⟨92 :: 117 :: a :: b :: c :: e :: u, q, by rw [e1]; rfl, e2, by omega, fun z hz => ?_⟩
    refine p_in hs s0 h34 hsi hl.symm (fun x => by cases x) d (by omega) z ?_
    refine p_in hs s0 h34 (by omega) hr.symm (fun x => by cases x) _ (by simp only [List.length_append, List.length_singleton]; omega) z ?_
    refine p_in hs s0 h34 (by omega) hr2.symm (fun x => absurd x (hx a ha).1) _ (by simp only [List.length_append, List.length_singleton]; omega) z ?_
    refine p_in hs s0 h34 (by omega) hra.symm (fun x => absurd x (hx b hb).1) _ (by simp only [List.length_append, List.length_singleton]; omega) z ?_
    refine p_in hs s0 h34 (by omega) hrb.symm (fun x => absurd x (hx c hc).1) _ (by simp only [List.length_append, List.length_singleton]; omega) z ?_
    refine p_in hs s0 h34 (by omega) hrc.symm (fun x => absurd x (hx e he).1) _ (by simp only [List.length_append, List.length_singleton]; omega) z ?_
    refine e4 z ?_
    simp only [List.append_assoc]
    exact hz
end
end Go.Proofs.Ytdokakhhpcckaaa.Pure
