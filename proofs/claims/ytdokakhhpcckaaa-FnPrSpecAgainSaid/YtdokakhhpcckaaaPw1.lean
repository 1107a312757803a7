/- Uncommented's row of bytes, told forwards; Spec's text from it; a JSON text is left as it is. No condition but sizes. -/
import Derived.Test.YtdokakhhpcckaaaPw0
namespace Go.Proofs.Ytdokakhhpcckaaa.Pure
set_option linter.unusedVariables false
open Go.RowKit Go.Proofs.Ytdokakhhpcckaaa

/-- What Spec makes of a comment's byte. -/
def bp (c : UInt8) : UInt8 := if c = 10 then 10 else if c = 9 then 9 else if c = 13 then 13 else 32
theorem blk_bl (c : UInt8) : blk (bl c) = true := by unfold bl; split <;> rfl
theorem blk_bp (c : UInt8) : blk (bp c) = true := by
  unfold bp
  split
  · rfl
  · split
    · rfl
    · split <;> rfl
theorem sk_map {b b' : UInt8 → UInt8} (hb : ∀ c, blk (b c) = true) (hb' : ∀ c, blk (b' c) = true) {f g : List UInt8} (h : Sk f g) : ∀ c : List UInt8, Sk (c.map b ++ f) (c.map b' ++ g)
  | [] => h
  | x :: c => .blank _ _ _ _ (hb x) (hb' x) (sk_map hb hb' h c)

theorem fw_other {b b' : UInt8 → UInt8} (hb : ∀ c, blk (b c) = true) (hb' : ∀ c, blk (b' c) = true) {l f : List UInt8} (h : Fw b l f) : ∃ g, Fw b' l g ∧ Sk f g := by
  induction h with
  | nil => exact ⟨[], .nil, .nil⟩
  | cmt m c r f h1 h2 _ ih =>
    obtain ⟨g, h3, h4⟩ := ih
    exact ⟨_, .cmt m c r g h1 h2 h3, sk_map hb hb' h4 c⟩
  | str u r f h1 _ ih =>
    obtain ⟨g, h3, h4⟩ := ih
    exact ⟨_, .str u r g h1 h3, .str u f g (str_swap h1 f) h4⟩
  | drop l f h1 _ ih =>
    obtain ⟨g, h3, h4⟩ := ih
    exact ⟨_, .drop l g h1 h3, .same _ _ _ (by decide) h4⟩
  | keep l f h1 _ ih =>
    obtain ⟨g, h3, h4⟩ := ih
    exact ⟨_, .keep l g h1 h3, .same _ _ _ (by decide) h4⟩
  | oth c l f h1 h2 h3 _ ih =>
    obtain ⟨g, h4, h5⟩ := ih
    exact ⟨_, .oth c l g h1 h2 h3 h4, .same _ _ _ h2 h5⟩

theorem clean_sk {f g : List UInt8} (h : Clean f) (hs : Sk f g) : Clean g := by
  induction h generalizing g with
  | nil => cases hs; exact .nil
  | str u r h1 _ ih =>
    obtain ⟨s', r', rfl, h2, h3⟩ := sk_str hs h1
    obtain ⟨u', rfl, _⟩ := str_tail h2
    exact .str u' r' h2 (ih h3)
  | oth c l h1 h2 _ ih =>
    cases hs with
    | same _ _ g' _ h => exact .oth c g' h1 h2 (ih h)
    | blank _ d _ g' _ hd h => exact .oth d g' (blk_not hd).2.2.2.2.2 (.inl hd) (ih h)
    | str _ _ _ _ _ => exact absurd rfl h1

/-! ### A JSON text stays as it is -/
/-- Kept as it is, and clean. -/
def Kp (b : UInt8 → UInt8) (l : List UInt8) : Prop := Fw b l l ∧ Clean l
theorem kp_oth {b : UInt8 → UInt8} {c : UInt8} {l : List UInt8} (h : Kp b l) (h1 : c ≠ 47) (h2 : c ≠ 34) (h3 : c ≠ 44) (h4 : blk c = true ∨ 32 < c.toNat) : Kp b (c :: l) := ⟨.oth c l l h1 h2 h3 h.1, .oth c l h2 h4 h.2⟩
theorem kp_str {b : UInt8 → UInt8} {s r : List UInt8} (hs : StrIn s r) (h : Kp b r) : Kp b (34 :: s) := by
  obtain ⟨u, rfl, h1⟩ := str_tail hs
  exact ⟨.str u r r hs h.1, .str u r hs h.2⟩
theorem kp_ws {b : UInt8 → UInt8} : ∀ {l : List UInt8}, Kp b (wsL l) → Kp b l
  | [], h => h
  | c :: l, h => by
    rw [wsL_cons] at h
    by_cases hb : blk c = true
    · rw [if_pos hb] at h
      have k : c ≠ 47 ∧ c ≠ 34 ∧ c ≠ 44 := by rcases blk_four hb with e | e | e | e <;> subst e <;> decide
      exact kp_oth (kp_ws h) k.1 k.2.1 k.2.2 (.inl hb)
    · rw [if_neg hb] at h
      exact h
/-- Bytes of numbers and words. -/
def Tk (c : UInt8) : Prop := c ≠ 47 ∧ c ≠ 34 ∧ c ≠ 44 ∧ 32 < c.toNat
theorem kp_tok {b : UInt8 → UInt8} {r : List UInt8} (h : Kp b r) : ∀ {s : List UInt8}, (∀ c ∈ s, Tk c) → Kp b (s ++ r)
  | [], _ => h
  | c :: s, hs => by
    have k := hs c (List.mem_cons_self ..)
    exact kp_oth (kp_tok h fun d hd => hs d (List.mem_cons_of_mem _ hd)) k.1 k.2.1 k.2.2.1 (.inr k.2.2.2)
theorem tk_dgt {c : UInt8} (h : dgt c = true) : Tk c := by
  rcases dgt_ten h with e | e | e | e | e | e | e | e | e | e <;> subst e <;> exact ⟨by decide, by decide, by decide, by decide⟩
/-- r is what is left of l behind bytes of a number. -/
def Ts (l r : List UInt8) : Prop := ∃ s, l = s ++ r ∧ ∀ c ∈ s, Tk c
theorem Ts.refl (l : List UInt8) : Ts l l := ⟨[], rfl, fun _ h => by cases h⟩
theorem Ts.cons {c : UInt8} {l r : List UInt8} (hc : Tk c) (h : Ts l r) : Ts (c :: l) r := by
  obtain ⟨s, rfl, hs⟩ := h
  refine ⟨c :: s, rfl, fun d hd => ?_⟩
  rcases List.mem_cons.1 hd with e | e
  · rw [e]; exact hc
  · exact hs d e
theorem Ts.trans {l m r : List UInt8} (h : Ts l m) (g : Ts m r) : Ts l r := by
  obtain ⟨s, rfl, hs⟩ := h
  obtain ⟨u, rfl, hu⟩ := g
  refine ⟨s ++ u, by rw [List.append_assoc], fun d hd => ?_⟩
  rcases List.mem_append.1 hd with e | e
  · exact hs d e
  · exact hu d e
theorem ts_dgs : ∀ l, Ts l (dgs l)
  | [] => .refl _
  | c :: l => by
    rw [dgs_cons]
    by_cases h : dgt c = true
    · rw [if_pos h]; exact .cons (tk_dgt h) (ts_dgs l)
    · rw [if_neg h]; exact .refl _
theorem ts_dg1 {l r : List UInt8} (h : dg1 l = some r) : Ts l r := by
  cases l with
  | nil => cases h
  | cons c l =>
    rw [dg1_cons] at h
    by_cases hd : dgt c = true
    · rw [if_pos hd] at h
      obtain rfl := Option.some.inj h
      exact .cons (tk_dgt hd) (ts_dgs l)
    · rw [if_neg hd] at h; cases h
theorem ts_sgn (l : List UInt8) : Ts l (sgnL l) := by
  cases l with
  | nil => exact .refl _
  | cons c l =>
    rw [sgnL_cons]
    by_cases h1 : c = 43
    · rw [if_pos h1]; subst h1; exact .cons ⟨by decide, by decide, by decide, by decide⟩ (.refl _)
    · rw [if_neg h1]
      by_cases h2 : c = 45
      · rw [if_pos h2]; subst h2; exact .cons ⟨by decide, by decide, by decide, by decide⟩ (.refl _)
      · rw [if_neg h2]; exact .refl _
theorem ts_exp {l r : List UInt8} (h : expL l = some r) : Ts l r := by
  cases l with
  | nil => obtain rfl := Option.some.inj h; exact .refl _
  | cons c l =>
    rw [expL_cons] at h
    by_cases h1 : c = 101 ∨ c = 69
    · rw [if_pos h1] at h
      exact .cons (by rcases h1 with e | e <;> subst e <;> exact ⟨by decide, by decide, by decide, by decide⟩) ((ts_sgn l).trans (ts_dg1 h))
    · rw [if_neg h1] at h
      obtain rfl := Option.some.inj h
      exact .refl _
theorem ts_frac {l r : List UInt8} (h : fracL l = some r) : Ts l r := by
  cases l with
  | nil => obtain rfl := Option.some.inj h; exact .refl _
  | cons c l =>
    rw [fracL_cons] at h
    by_cases h1 : c = 46
    · rw [if_pos h1] at h
      obtain ⟨m, e1, e2⟩ := Option.bind_eq_some_iff.1 h
      subst h1
      exact .cons ⟨by decide, by decide, by decide, by decide⟩ ((ts_dg1 e1).trans (ts_exp e2))
    · rw [if_neg h1] at h; exact ts_exp h
theorem ts_int {l r : List UInt8} (h : intL l = some r) : Ts l r := by
  cases l with
  | nil => cases h
  | cons c l =>
    rw [intL_cons] at h
    by_cases h1 : c = 48
    · rw [if_pos h1] at h
      subst h1
      exact .cons ⟨by decide, by decide, by decide, by decide⟩ (ts_frac h)
    · rw [if_neg h1] at h
      obtain ⟨m, e1, e2⟩ := Option.bind_eq_some_iff.1 h
      exact (ts_dg1 e1).trans (ts_frac e2)
theorem ts_num {l r : List UInt8} (h : numL l = some r) : Ts l r := by
  cases l with
  | nil => cases h
  | cons c l =>
    rw [numL_cons] at h
    by_cases h1 : c = 45
    · rw [if_pos h1] at h
      subst h1
      exact .cons ⟨by decide, by decide, by decide, by decide⟩ (ts_int h)
    · rw [if_neg h1] at h; exact ts_int h
theorem not_cl_ws : ∀ {l : List UInt8} {c : UInt8} {r : List UInt8}, wsL l = c :: r → c ≠ 47 → c ≠ 125 → c ≠ 93 → ¬ Cl l
  | [], _, _, h, _, _, _ => by cases h
  | d :: l, c, r, h, h1, h2, h3 => by
    rw [wsL_cons] at h
    by_cases hb : blk d = true
    · rw [if_pos hb] at h
      rw [cl_blank hb]
      exact not_cl_ws h h1 h2 h3
    · rw [if_neg hb] at h
      obtain ⟨rfl, rfl⟩ := List.cons.inj h
      exact cl_not (by simpa using hb) h1 h2 h3
theorem kp_comma {b : UInt8 → UInt8} {l : List UInt8} (h : Kp b l) (hn : ¬ Cl l) : Kp b (44 :: l) := ⟨.keep l l hn h.1, .oth 44 l (by decide) (.inr (by decide)) h.2⟩
theorem kp_of_ws {b : UInt8 → UInt8} {l : List UInt8} {c : UInt8} {r : List UInt8} (hw : wsL l = c :: r) (h : Kp b (c :: r)) : Kp b l := kp_ws (by rw [hw]; exact h)
theorem je_not_cl {n : Nat} {m r : List UInt8} {Ts : List JT} (h : JEs n (wsL m) r Ts) : ¬ Cl m := by
  obtain ⟨m1, T1, h1⟩ := je_cons h
  obtain ⟨s, e1, e2⟩ := jv_after h1
  obtain ⟨c, s', rfl⟩ := List.exists_cons_of_length_pos e2
  rw [e1] at h1
  have k := jv_head_ne (x := c) (l := s' ++ m1) h1
  exact not_cl_ws (c := c) (r := s' ++ m1) e1 k.2.2.2.2 k.2.1 k.1
theorem jm_head {n : Nat} {l r : List UInt8} {Ns : List (Nat × Nat)} {Ts : List JT} (h : JMs n l r Ns Ts) : ∃ s, l = 34 :: s := by
  cases h with
  | last s _ _ _ _ _ _ _ _ _ => exact ⟨s, rfl⟩
  | more s _ _ _ _ _ _ _ _ _ _ _ _ _ => exact ⟨s, rfl⟩

mutual
theorem jv_kp {n : Nat} {b : UInt8 → UInt8} : ∀ {l r : List UInt8} {T : JT}, JV n l r T → Kp b r → Kp b l
  | _, _, _, .str l r h, k => kp_str h k
  | _, _, _, .num c l r hc h, k => by
    obtain ⟨s, e, hs⟩ := ts_num h
    rw [e]
    exact kp_tok k hs
  | _, _, _, .nul r, k => kp_tok (s := [110, 117, 108, 108]) k (fun c hc => by simp at hc; rcases hc with e | e | e <;> subst e <;> exact ⟨by decide, by decide, by decide, by decide⟩)
  | _, _, _, .fls r, k => kp_tok (s := [102, 97, 108, 115, 101]) k (fun c hc => by simp at hc; rcases hc with e | e | e | e | e <;> subst e <;> exact ⟨by decide, by decide, by decide, by decide⟩)
  | _, _, _, .tru r, k => kp_tok (s := [116, 114, 117, 101]) k (fun c hc => by simp at hc; rcases hc with e | e | e | e <;> subst e <;> exact ⟨by decide, by decide, by decide, by decide⟩)
  | _, _, _, .arr0 l r h, k => kp_oth (kp_of_ws h (kp_oth k (by decide) (by decide) (by decide) (.inr (by decide)))) (by decide) (by decide) (by decide) (.inr (by decide))
  | _, _, _, .arr l r ks h, k => kp_oth (kp_ws (je_kp h k)) (by decide) (by decide) (by decide) (.inr (by decide))
  | _, _, _, .obj0 l r h, k => kp_oth (kp_of_ws h (kp_oth k (by decide) (by decide) (by decide) (.inr (by decide)))) (by decide) (by decide) (by decide) (.inr (by decide))
  | _, _, _, .obj l r nms ks h, k => kp_oth (kp_ws (jm_kp h k)) (by decide) (by decide) (by decide) (.inr (by decide))
theorem je_kp {n : Nat} {b : UInt8 → UInt8} : ∀ {l r : List UInt8} {Ts : List JT}, JEs n l r Ts → Kp b r → Kp b l
  | _, _, _, .last l m r T h1 h2, k => jv_kp h1 (kp_of_ws h2 (kp_oth k (by decide) (by decide) (by decide) (.inr (by decide))))
  | _, _, _, .more l m m' r T Ts h1 h2 h3, k => jv_kp h1 (kp_of_ws h2 (kp_comma (kp_ws (je_kp h3 k)) (je_not_cl h3)))
theorem jm_kp {n : Nat} {b : UInt8 → UInt8} : ∀ {l r : List UInt8} {Ns : List (Nat × Nat)} {Ts : List JT}, JMs n l r Ns Ts → Kp b r → Kp b l
  | _, _, _, _, .last s c v m r T h1 h2 h3 h4, k => kp_str h1 (kp_of_ws h2 (kp_oth (kp_ws (jv_kp h3 (kp_of_ws h4 (kp_oth k (by decide) (by decide) (by decide) (.inr (by decide)))))) (by decide) (by decide) (by decide) (.inr (by decide))))
  | _, _, _, _, .more s c v m m' r T Ns Ts h1 h2 h3 h4 h5, k => by
    refine kp_str h1 (kp_of_ws h2 (kp_oth (kp_ws (jv_kp h3 (kp_of_ws h4 (kp_comma (kp_ws (jm_kp h5 k)) ?_)))) (by decide) (by decide) (by decide) (.inr (by decide))))
    obtain ⟨s', e⟩ := jm_head h5
    exact not_cl_ws e (by decide) (by decide) (by decide)
end
theorem jtext_kp {b : UInt8 → UInt8} {l : List UInt8} {T : JT} (h : JText l T) : Kp b l := by
  obtain ⟨r, h1, h2⟩ := h
  refine kp_ws (jv_kp h1 (kp_ws ?_))
  rw [h2]
  exact ⟨.nil, .nil⟩
end Go.Proofs.Ytdokakhhpcckaaa.Pure
