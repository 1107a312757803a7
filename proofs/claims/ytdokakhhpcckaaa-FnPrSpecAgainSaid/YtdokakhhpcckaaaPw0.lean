/- What Uncommented and Spec make of a text, told forwards over lists: comments blanked, a comma with a closing bracket behind it blanked; texts that are alike but for blanks. No program; no condition. -/
import Derived.Test.YtdokakhhpcckaaaVa2
namespace Go.Proofs.Ytdokakhhpcckaaa.Pure
set_option linter.unusedVariables false
open Go.RowKit Go.Proofs.Ytdokakhhpcckaaa

/-- Behind blanks and comments a bracket closes. -/
inductive Cl : List UInt8 → Prop
  | blank (c : UInt8) (l : List UInt8) : blk c = true → Cl l → Cl (c :: l)
  | cmt (m r : List UInt8) : cmtF (47 :: m) = some r → Cl r → Cl (47 :: m)
  | obj (l : List UInt8) : Cl (125 :: l)
  | arr (l : List UInt8) : Cl (93 :: l)
theorem cl_blank {c : UInt8} {l : List UInt8} (hb : blk c = true) : Cl (c :: l) ↔ Cl l := by
  constructor
  · intro h
    cases h with
    | blank _ _ _ h => exact h
    | cmt _ _ _ _ => cases hb
    | obj _ => cases hb
    | arr _ => cases hb
  · exact .blank c l hb
theorem cl_cmt {m r : List UInt8} (hc : cmtF (47 :: m) = some r) : Cl (47 :: m) ↔ Cl r := by
  constructor
  · intro h
    cases h with
    | blank _ _ hb _ => cases hb
    | cmt _ r' h1 h2 =>
      obtain rfl := Option.some.inj (hc.symm.trans h1)
      exact h2
  · exact .cmt m r hc
theorem cl_not {c : UInt8} {l : List UInt8} (hb : blk c = false) (h47 : c ≠ 47) (h1 : c ≠ 125) (h2 : c ≠ 93) : ¬ Cl (c :: l) := by
  intro h
  cases h with
  | blank _ _ h _ => rw [hb] at h; cases h
  | cmt _ _ _ _ => exact h47 rfl
  | obj _ => exact h1 rfl
  | arr _ => exact h2 rfl
theorem cl_nil : ¬ Cl [] := by intro h; cases h

/-- What becomes of a text: b tells what a comment's byte becomes. -/
inductive Fw (b : UInt8 → UInt8) : List UInt8 → List UInt8 → Prop
  | nil : Fw b [] []
  | cmt (m c r f : List UInt8) : cmtF (47 :: m) = some r → 47 :: m = c ++ r → Fw b r f → Fw b (47 :: m) (c.map b ++ f)
  | str (u r f : List UInt8) : StrIn (u ++ r) r → Fw b r f → Fw b (34 :: (u ++ r)) (34 :: (u ++ f))
  | drop (l f : List UInt8) : Cl l → Fw b l f → Fw b (44 :: l) (32 :: f)
  | keep (l f : List UInt8) : ¬ Cl l → Fw b l f → Fw b (44 :: l) (44 :: f)
  | oth (c : UInt8) (l f : List UInt8) : c ≠ 47 → c ≠ 34 → c ≠ 44 → Fw b l f → Fw b (c :: l) (c :: f)

/-- Outside of strings: blanks, or bytes above U+0020. -/
inductive Clean : List UInt8 → Prop
  | nil : Clean []
  | str (u r : List UInt8) : StrIn (u ++ r) r → Clean r → Clean (34 :: (u ++ r))
  | oth (c : UInt8) (l : List UInt8) : c ≠ 34 → (blk c = true ∨ 32 < c.toNat) → Clean l → Clean (c :: l)

/-- Alike but for blanks outside of strings. -/
inductive Sk : List UInt8 → List UInt8 → Prop
  | nil : Sk [] []
  | same (c : UInt8) (f g : List UInt8) : c ≠ 34 → Sk f g → Sk (c :: f) (c :: g)
  | blank (c d : UInt8) (f g : List UInt8) : blk c = true → blk d = true → Sk f g → Sk (c :: f) (d :: g)
  | str (u r s : List UInt8) : StrIn (u ++ r) r → Sk r s → Sk (34 :: (u ++ r)) (34 :: (u ++ s))

theorem str_det : ∀ {l r r' : List UInt8}, StrIn l r → StrIn l r' → r = r' := by
  intro l r r' h
  induction h generalizing r' with
  | close r =>
    intro h'
    cases h' with
    | close _ => rfl
    | one _ _ _ h1 _ _ _ => exact absurd rfl h1
  | one c l r h1 h2 h3 _ ih =>
    intro h'
    cases h' with
    | close _ => exact absurd rfl h1
    | one _ _ _ _ _ _ h => exact ih h
    | esc _ _ _ _ _ => exact absurd rfl h2
    | uni _ _ _ _ _ _ _ _ _ _ _ => exact absurd rfl h2
  | esc c l r hc _ ih =>
    intro h'
    cases h' with
    | one _ _ _ _ h2 _ _ => exact absurd rfl h2
    | esc _ _ _ _ h => exact ih h
    | uni _ _ _ _ _ _ _ _ _ _ _ => cases hc
  | uni a b c d l r _ _ _ _ _ ih =>
    intro h'
    cases h' with
    | one _ _ _ _ h2 _ _ => exact absurd rfl h2
    | esc _ _ _ hc _ => cases hc
    | uni _ _ _ _ _ _ _ _ _ _ h => exact ih h
/-- A string's inside does not ask what follows. -/
theorem str_tail {l r : List UInt8} (h : StrIn l r) : ∃ u, l = u ++ r ∧ ∀ s, StrIn (u ++ s) s := by
  induction h with
  | close r => exact ⟨[34], rfl, fun s => .close s⟩
  | one c l r h1 h2 h3 _ ih => obtain ⟨u, rfl, h⟩ := ih; exact ⟨c :: u, rfl, fun s => .one c _ s h1 h2 h3 (h s)⟩
  | esc c l r hc _ ih => obtain ⟨u, rfl, h⟩ := ih; exact ⟨92 :: c :: u, rfl, fun s => .esc c _ s hc (h s)⟩
  | uni a b c d l r ha hb hc hd _ ih => obtain ⟨u, rfl, h⟩ := ih; exact ⟨92 :: 117 :: a :: b :: c :: d :: u, rfl, fun s => .uni a b c d _ s ha hb hc hd (h s)⟩
theorem str_swap {u r : List UInt8} (h : StrIn (u ++ r) r) (s : List UInt8) : StrIn (u ++ s) s := by
  obtain ⟨u', e, h'⟩ := str_tail h
  obtain rfl := List.append_cancel_right e
  exact h' s

theorem sk_head {c : UInt8} {f g : List UInt8} (h : Sk (c :: f) g) (h34 : c ≠ 34) (hb : blk c = false) : ∃ g', g = c :: g' ∧ Sk f g' := by
  cases h with
  | same _ _ g' _ h => exact ⟨g', rfl, h⟩
  | blank _ _ _ _ h1 _ _ => rw [hb] at h1; cases h1
  | str _ _ _ _ _ => exact absurd rfl h34
theorem sk_str {s r g : List UInt8} (h : Sk (34 :: s) g) (hs : StrIn s r) : ∃ s' r', g = 34 :: s' ∧ StrIn s' r' ∧ Sk r r' := by
  cases h with
  | same _ _ _ h _ => exact absurd rfl h
  | blank _ _ _ _ h1 _ _ => cases h1
  | str u r1 s1 h1 h2 =>
    obtain rfl := str_det hs h1
    exact ⟨_, s1, rfl, str_swap h1 s1, h2⟩
theorem sk_ws : ∀ {f g : List UInt8}, Sk f g → Sk (wsL f) (wsL g) := by
  intro f g h
  induction h with
  | nil => exact .nil
  | same c f g h34 hs ih =>
    rw [wsL_cons, wsL_cons]
    by_cases hb : blk c = true
    · rw [if_pos hb, if_pos hb]; exact ih
    · rw [if_neg hb, if_neg hb]; exact .same c f g h34 hs
  | blank c d f g h1 h2 _ ih =>
    rw [wsL_cons, wsL_cons, if_pos h1, if_pos h2]
    exact ih
  | str u r s h1 h2 _ =>
    rw [wsL_of (c := 34) rfl, wsL_of (c := 34) rfl]
    exact .str u r s h1 h2
theorem sk_ws_head {f g : List UInt8} {c : UInt8} {r : List UInt8} (h : Sk f g) (hw : wsL f = c :: r) (h34 : c ≠ 34) : ∃ r', wsL g = c :: r' ∧ Sk r r' := by
  have h1 := sk_ws h
  rw [hw] at h1
  exact sk_head h1 h34 (wsL_head hw)
theorem blk_dgt {c : UInt8} (h : blk c = true) : dgt c = false := by
  rcases blk_four h with e | e | e | e <;> subst e <;> rfl
theorem sk_dgs {f g : List UInt8} (h : Sk f g) : Sk (dgs f) (dgs g) := by
  induction h with
  | nil => exact .nil
  | same c f g h34 hs ih =>
    rw [dgs_cons, dgs_cons]
    by_cases hb : dgt c = true
    · rw [if_pos hb, if_pos hb]; exact ih
    · rw [if_neg hb, if_neg hb]; exact .same c f g h34 hs
  | blank c d f g h1 h2 hs _ =>
    rw [dgs_cons, dgs_cons, if_neg (by rw [blk_dgt h1]; decide), if_neg (by rw [blk_dgt h2]; decide)]
    exact .blank c d f g h1 h2 hs
  | str u r s h1 h2 _ =>
    rw [dgs_cons, dgs_cons, if_neg (by decide), if_neg (by decide)]
    exact .str u r s h1 h2
/-- A reader that carries likeness over. -/
def Car (R : List UInt8 → Option (List UInt8)) : Prop := ∀ {f g r}, Sk f g → R f = some r → ∃ r', R g = some r' ∧ Sk r r'
theorem car_dg1 : Car dg1 := by
  intro f g r h hr
  cases h with
  | nil => cases hr
  | same c f g h34 hs =>
    rw [dg1_cons] at hr ⊢
    by_cases hb : dgt c = true
    · rw [if_pos hb] at hr ⊢
      obtain rfl := Option.some.inj hr
      exact ⟨_, rfl, sk_dgs hs⟩
    · rw [if_neg hb] at hr; cases hr
  | blank c d f g h1 h2 hs => rw [dg1_cons, if_neg (by rw [blk_dgt h1]; decide)] at hr; cases hr
  | str u r s h1 h2 => rw [dg1_cons, if_neg (by decide)] at hr; cases hr
theorem sk_sgn {f g : List UInt8} (h : Sk f g) : Sk (sgnL f) (sgnL g) := by
  cases h with
  | nil => exact .nil
  | same c f g h34 hs =>
    rw [sgnL_cons, sgnL_cons]
    by_cases h1 : c = 43
    · rw [if_pos h1, if_pos h1]; exact hs
    · rw [if_neg h1, if_neg h1]
      by_cases h2 : c = 45
      · rw [if_pos h2, if_pos h2]; exact hs
      · rw [if_neg h2, if_neg h2]; exact .same c f g h34 hs
  | blank c d f g h1 h2 hs =>
    have k : ∀ x : UInt8, blk x = true → x ≠ 43 ∧ x ≠ 45 := by intro x hx; rcases blk_four hx with e | e | e | e <;> subst e <;> decide
    rw [sgnL_cons, sgnL_cons, if_neg (k c h1).1, if_neg (k c h1).2, if_neg (k d h2).1, if_neg (k d h2).2]
    exact .blank c d f g h1 h2 hs
  | str u r s h1 h2 =>
    rw [sgnL_cons, sgnL_cons, if_neg (by decide), if_neg (by decide), if_neg (by decide), if_neg (by decide)]
    exact .str u r s h1 h2
theorem blk_not {x : UInt8} (hx : blk x = true) : x ≠ 46 ∧ x ≠ 101 ∧ x ≠ 69 ∧ x ≠ 48 ∧ x ≠ 45 ∧ x ≠ 34 := by rcases blk_four hx with e | e | e | e <;> subst e <;> decide
theorem car_exp : Car expL := by
  intro f g r h hr
  cases h with
  | nil => exact ⟨_, hr, by obtain rfl := Option.some.inj hr; exact .nil⟩
  | same c f g h34 hs =>
    rw [expL_cons] at hr ⊢
    by_cases h1 : c = 101 ∨ c = 69
    · rw [if_pos h1] at hr ⊢; exact car_dg1 (sk_sgn hs) hr
    · rw [if_neg h1] at hr ⊢
      obtain rfl := Option.some.inj hr
      exact ⟨_, rfl, .same c f g h34 hs⟩
  | blank c d f g h1 h2 hs =>
    have k1 := blk_not h1
    have k2 := blk_not h2
    rw [expL_cons, if_neg (fun e => e.elim k1.2.1 k1.2.2.1)] at hr
    obtain rfl := Option.some.inj hr
    rw [expL_cons, if_neg (fun e => e.elim k2.2.1 k2.2.2.1)]
    exact ⟨_, rfl, .blank c d f g h1 h2 hs⟩
  | str u r s h1 h2 =>
    rw [expL_cons, if_neg (by decide)] at hr ⊢
    obtain rfl := Option.some.inj hr
    exact ⟨_, rfl, .str u r s h1 h2⟩
theorem car_frac : Car fracL := by
  intro f g r h hr
  cases h with
  | nil => exact ⟨_, hr, by obtain rfl := Option.some.inj hr; exact .nil⟩
  | same c f g h34 hs =>
    rw [fracL_cons] at hr ⊢
    by_cases h1 : c = 46
    · rw [if_pos h1] at hr ⊢
      obtain ⟨m, e1, e2⟩ := Option.bind_eq_some_iff.1 hr
      obtain ⟨m', e3, e4⟩ := car_dg1 hs e1
      obtain ⟨r', e5, e6⟩ := car_exp e4 e2
      exact ⟨r', by rw [e3]; exact e5, e6⟩
    · rw [if_neg h1] at hr ⊢; exact car_exp (.same c f g h34 hs) hr
  | blank c d f g h1 h2 hs =>
    rw [fracL_cons, if_neg (blk_not h1).1] at hr
    rw [fracL_cons, if_neg (blk_not h2).1]
    exact car_exp (.blank c d f g h1 h2 hs) hr
  | str u r s h1 h2 =>
    rw [fracL_cons, if_neg (by decide)] at hr ⊢
    exact car_exp (.str u r s h1 h2) hr
theorem car_int : Car intL := by
  intro f g r h hr
  have go : ∀ {f g : List UInt8}, Sk f g → (dg1 f).bind fracL = some r → ∃ r', (dg1 g).bind fracL = some r' ∧ Sk r r' := by
    intro f g hs hr
    obtain ⟨m, e1, e2⟩ := Option.bind_eq_some_iff.1 hr
    obtain ⟨m', e3, e4⟩ := car_dg1 hs e1
    obtain ⟨r', e5, e6⟩ := car_frac e4 e2
    exact ⟨r', by rw [e3]; exact e5, e6⟩
  cases h with
  | nil => cases hr
  | same c f g h34 hs =>
    rw [intL_cons] at hr ⊢
    by_cases h1 : c = 48
    · rw [if_pos h1] at hr ⊢; exact car_frac hs hr
    · rw [if_neg h1] at hr ⊢; exact go (.same c f g h34 hs) hr
  | blank c d f g h1 h2 hs =>
    rw [intL_cons, if_neg (blk_not h1).2.2.2.1] at hr
    rw [intL_cons, if_neg (blk_not h2).2.2.2.1]
    exact go (.blank c d f g h1 h2 hs) hr
  | str u r s h1 h2 =>
    rw [intL_cons, if_neg (by decide)] at hr ⊢
    exact go (.str u _ s h1 h2) hr
theorem car_num : Car numL := by
  intro f g r h hr
  cases h with
  | nil => cases hr
  | same c f g h34 hs =>
    rw [numL_cons] at hr ⊢
    by_cases h1 : c = 45
    · rw [if_pos h1] at hr ⊢; exact car_int hs hr
    · rw [if_neg h1] at hr ⊢; exact car_int (.same c f g h34 hs) hr
  | blank c d f g h1 h2 hs =>
    rw [numL_cons, if_neg (blk_not h1).2.2.2.2.1] at hr
    rw [numL_cons, if_neg (blk_not h2).2.2.2.2.1]
    exact car_int (.blank c d f g h1 h2 hs) hr
  | str u r s h1 h2 =>
    rw [numL_cons, if_neg (by decide)] at hr ⊢
    exact car_int (.str u r s h1 h2) hr

theorem sk_word {f g : List UInt8} : ∀ (w : List UInt8), (∀ c ∈ w, c ≠ 34 ∧ blk c = false) → Sk (w ++ f) g → ∃ g', g = w ++ g' ∧ Sk f g'
  | [], _, h => ⟨g, rfl, h⟩
  | c :: w, hw, h => by
    obtain ⟨g1, rfl, h1⟩ := sk_head h (hw c (List.mem_cons_self ..)).1 (hw c (List.mem_cons_self ..)).2
    obtain ⟨g2, rfl, h2⟩ := sk_word w (fun d hd => hw d (List.mem_cons_of_mem _ hd)) h1
    exact ⟨g2, rfl, h2⟩

mutual
theorem jv_sk {n : Nat} : ∀ {l r : List UInt8} {T : JT}, JV n l r T → ∀ {g}, Sk l g → ∃ r' T', JV n g r' T' ∧ Sk r r'
  | _, _, _, .str l r h, g, hs => by
    obtain ⟨s', r', rfl, h1, h2⟩ := sk_str hs h
    exact ⟨r', _, .str _ _ h1, h2⟩
  | _, _, _, .num c l r hc h, g, hs => by
    have hb : blk c = false := by
      cases hbb : blk c with
      | false => rfl
      | true => rcases hc with e | e
                · exact absurd e (blk_not hbb).2.2.2.2.1
                · rw [blk_dgt hbb] at e; cases e
    have h34 : c ≠ 34 := by
      rintro rfl
      rcases hc with e | e <;> cases e
    obtain ⟨r', h1, h2⟩ := car_num hs h
    obtain ⟨g', rfl, _⟩ := sk_head hs h34 hb
    exact ⟨r', _, .num c g' r' hc h1, h2⟩
  | _, _, _, .nul r, g, hs => by
    obtain ⟨g', rfl, h⟩ := sk_word [110, 117, 108, 108] (by decide) hs
    exact ⟨g', _, .nul g', h⟩
  | _, _, _, .fls r, g, hs => by
    obtain ⟨g', rfl, h⟩ := sk_word [102, 97, 108, 115, 101] (by decide) hs
    exact ⟨g', _, .fls g', h⟩
  | _, _, _, .tru r, g, hs => by
    obtain ⟨g', rfl, h⟩ := sk_word [116, 114, 117, 101] (by decide) hs
    exact ⟨g', _, .tru g', h⟩
  | _, _, _, .arr0 l r h, g, hs => by
    obtain ⟨g', rfl, h1⟩ := sk_head hs (by decide) rfl
    obtain ⟨r', h2, h3⟩ := sk_ws_head h1 h (by decide)
    exact ⟨r', _, .arr0 _ _ h2, h3⟩
  | _, _, _, .arr l r ks h, g, hs => by
    obtain ⟨g', rfl, h1⟩ := sk_head hs (by decide) rfl
    obtain ⟨r', Ts', h2, h3⟩ := je_sk h (sk_ws h1)
    exact ⟨r', _, .arr _ _ _ h2, h3⟩
  | _, _, _, .obj0 l r h, g, hs => by
    obtain ⟨g', rfl, h1⟩ := sk_head hs (by decide) rfl
    obtain ⟨r', h2, h3⟩ := sk_ws_head h1 h (by decide)
    exact ⟨r', _, .obj0 _ _ h2, h3⟩
  | _, _, _, .obj l r nms ks h, g, hs => by
    obtain ⟨g', rfl, h1⟩ := sk_head hs (by decide) rfl
    obtain ⟨r', Ns', Ts', h2, h3⟩ := jm_sk h (sk_ws h1)
    exact ⟨r', _, .obj _ _ _ _ h2, h3⟩
theorem je_sk {n : Nat} : ∀ {l r : List UInt8} {Ts : List JT}, JEs n l r Ts → ∀ {g}, Sk l g → ∃ r' Ts', JEs n g r' Ts' ∧ Sk r r'
  | _, _, _, .last l m r T h1 h2, g, hs => by
    obtain ⟨m', T', h3, h4⟩ := jv_sk h1 hs
    obtain ⟨r', h5, h6⟩ := sk_ws_head h4 h2 (by decide)
    exact ⟨r', _, .last _ _ _ _ h3 h5, h6⟩
  | _, _, _, .more l m m' r T Ts h1 h2 h3, g, hs => by
    obtain ⟨m1, T', h4, h5⟩ := jv_sk h1 hs
    obtain ⟨m2, h6, h7⟩ := sk_ws_head h5 h2 (by decide)
    obtain ⟨r', Ts', h8, h9⟩ := je_sk h3 (sk_ws h7)
    exact ⟨r', _, .more _ _ _ _ _ _ h4 h6 h8, h9⟩
theorem jm_sk {n : Nat} : ∀ {l r : List UInt8} {Ns : List (Nat × Nat)} {Ts : List JT}, JMs n l r Ns Ts → ∀ {g}, Sk l g → ∃ r' Ns' Ts', JMs n g r' Ns' Ts' ∧ Sk r r'
  | _, _, _, _, .last s c v m r T h1 h2 h3 h4, g, hs => by
    obtain ⟨s', c', rfl, k1, k2⟩ := sk_str hs h1
    obtain ⟨v', k3, k4⟩ := sk_ws_head k2 h2 (by decide)
    obtain ⟨m', T', k5, k6⟩ := jv_sk h3 (sk_ws k4)
    obtain ⟨r', k7, k8⟩ := sk_ws_head k6 h4 (by decide)
    exact ⟨r', _, _, .last _ _ _ _ _ _ k1 k3 k5 k7, k8⟩
  | _, _, _, _, .more s c v m m' r T Ns Ts h1 h2 h3 h4 h5, g, hs => by
    obtain ⟨s', c', rfl, k1, k2⟩ := sk_str hs h1
    obtain ⟨v', k3, k4⟩ := sk_ws_head k2 h2 (by decide)
    obtain ⟨m1, T', k5, k6⟩ := jv_sk h3 (sk_ws k4)
    obtain ⟨m2, k7, k8⟩ := sk_ws_head k6 h4 (by decide)
    obtain ⟨r', Ns', Ts', k9, k10⟩ := jm_sk h5 (sk_ws k8)
    exact ⟨r', _, _, .more _ _ _ _ _ _ _ _ _ k1 k3 k5 k7 k9, k10⟩
end
theorem sk_len {f g : List UInt8} (h : Sk f g) : f.length = g.length := by
  induction h with
  | nil => rfl
  | same _ _ _ _ _ ih => simp only [List.length_cons, ih]
  | blank _ _ _ _ _ _ _ ih => simp only [List.length_cons, ih]
  | str u r s _ _ ih => simp only [List.length_cons, List.length_append, ih]
theorem jtext_sk {f g : List UInt8} {T : JT} (h : JText f T) (hs : Sk f g) : ∃ T', JText g T' := by
  obtain ⟨r, h1, h2⟩ := h
  obtain ⟨r', T', h3, h4⟩ := jv_sk h1 (sk_ws hs)
  refine ⟨T', r', by rw [← sk_len hs]; exact h3, ?_⟩
  have h5 := sk_ws h4
  rw [h2] at h5
  exact List.eq_nil_of_length_eq_zero (sk_len h5).symm
end Go.Proofs.Ytdokakhhpcckaaa.Pure
