/- What spec's reader reads, told in the grammar: strings, arrays, objects, values, and the whole text. Condition: the text takes at most 2^31 - 1 bytes. -/
import Derived.Test.YtdokakhhpcckaaaGr1
namespace Go.Proofs.Ytdokakhhpcckaaa.Pure
set_option linter.unusedVariables false
open Go.RowKit Go.Proofs.Ytdokakhhpcckaaa Go.Proofs.Ytdokakhhpcckaaa.MFnPrSpecAgain Go.Proofs.YtdokakhhpcckaaaW.PrintWords Go.Proofs.YtdokakhhpcckaaaW.PrintLast

theorem hexd_f (c : Int) : ∃ r, Ev (fun k => spec_hexDigit.f k c) r ∧ (r.2 = true → (48 ≤ c ∧ c ≤ 57) ∨ (97 ≤ c ∧ c ≤ 102) ∨ (65 ≤ c ∧ c ≤ 70)) := by
  have J1 : ∀ b, (b = true → 97 ≤ c ∧ c ≤ 102) → ∃ r, Ev (fun k => spec_hexDigit.j1 k c b) r ∧ (r.2 = true → (48 ≤ c ∧ c ≤ 57) ∨ (97 ≤ c ∧ c ≤ 102) ∨ (65 ≤ c ∧ c ≤ 70)) := by
    intro b hb
    cases b with
    | true => exact ⟨_, .succ (.const fun k => by simp only [spec_hexDigit.j1]; rfl), fun _ => .inr (.inl (hb rfl))⟩
    | false =>
      by_cases h1 : 65 ≤ c
      · by_cases h2 : c ≤ 70
        · exact ⟨(((c - 65) % 256) + 10, true), .succ (.const fun k => by simp only [spec_hexDigit.j1]; rw [if_neg (by decide), if_pos h1, if_pos h2]), fun _ => .inr (.inr ⟨h1, h2⟩)⟩
        · exact ⟨(0, false), .succ (.const fun k => by simp only [spec_hexDigit.j1]; rw [if_neg (by decide), if_pos h1, if_neg h2]), fun h => by cases h⟩
      · exact ⟨(0, false), .succ (.const fun k => by simp only [spec_hexDigit.j1]; rw [if_neg (by decide), if_neg h1]), fun h => by cases h⟩
  have J0 : ∀ b, (b = true → 48 ≤ c ∧ c ≤ 57) → ∃ r, Ev (fun k => spec_hexDigit.j0 k c b) r ∧ (r.2 = true → (48 ≤ c ∧ c ≤ 57) ∨ (97 ≤ c ∧ c ≤ 102) ∨ (65 ≤ c ∧ c ≤ 70)) := by
    intro b hb
    cases b with
    | true => exact ⟨((c - 48) % 256, true), .succ (.const fun k => by simp only [spec_hexDigit.j0]; rfl), fun _ => .inl (hb rfl)⟩
    | false =>
      by_cases h1 : 97 ≤ c
      · obtain ⟨r, hr, hr2⟩ := J1 (decide (c ≤ 102)) (fun h => ⟨h1, of_decide_eq_true h⟩)
        exact ⟨r, .succ (hr.congr fun k => by simp only [spec_hexDigit.j0]; rw [if_neg (by decide), if_pos h1]), hr2⟩
      · obtain ⟨r, hr, hr2⟩ := J1 false (fun h => by cases h)
        exact ⟨r, .succ (hr.congr fun k => by simp only [spec_hexDigit.j0]; rw [if_neg (by decide), if_neg h1]), hr2⟩
  by_cases h1 : 48 ≤ c
  · obtain ⟨r, hr, hr2⟩ := J0 (decide (c ≤ 57)) (fun h => ⟨h1, of_decide_eq_true h⟩)
    exact ⟨r, hr.congr fun k => by simp only [spec_hexDigit.f]; rw [if_pos h1], hr2⟩
  · obtain ⟨r, hr, hr2⟩ := J0 false (fun h => by cases h)
    exact ⟨r, hr.congr fun k => by simp only [spec_hexDigit.f]; rw [if_neg h1], hr2⟩

/-- m hexadecimal digits. -/
def HexN : Nat → List UInt8 → List UInt8 → Prop
  | 0, l, r => l = r
  | m + 1, l, r => ∃ c l', l = c :: l' ∧ hexc c = true ∧ HexN m l' r

theorem esc_l {t : ByteArray} (hs : t.size ≤ 2147483647) : ∀ (m n p : Nat), n + m = 4 → p ≤ t.size → ∃ (b : Bool) (q : Nat), Ev (fun k => spec_reader_escape.l0 k (n : Int) t (p : Int)) (b, t, (q : Int)) ∧ (p ≤ q ∧ q ≤ t.size) ∧ (b = true → HexN m (L t p) (L t q)) := by
  intro m
  induction m with
  | zero =>
    intro n p hn hp
    exact ⟨true, p, .succ (.const fun k => by simp only [spec_reader_escape.l0]; rw [if_neg (by omega)]), ⟨Nat.le_refl _, hp⟩, fun _ => rfl⟩
  | succ m ih =>
    intro n p hn hp
    obtain ⟨r, ⟨K, hr⟩, hr2⟩ := hexd_f (hv t p)
    cases hb : r.2 with
    | false => exact ⟨false, p, .succ ⟨K, fun k hk => by have e := hr k hk; simp only at e; simp only [spec_reader_escape.l0]; rw [if_pos (by omega), here_f hs, Option.bind_some, e, Option.bind_some, hb]; rfl⟩, ⟨Nat.le_refl _, hp⟩, fun h => by cases h⟩
    | true =>
      have hx := hr2 hb
      obtain ⟨hlt, h3⟩ := hv_lt (t := t) (p := p) (by omega)
      obtain ⟨b, q, ⟨K2, hq⟩, q1, q3⟩ := ih (n + 1) (p + 1) (by omega) (by omega)
      refine ⟨b, q, .succ ⟨max K K2, fun k hk => ?_⟩, by omega, fun h => ⟨t[p], L t (p + 1), L_cons hlt, ?_, q3 h⟩⟩
      · have e := hr k (by omega)
        have e2 := hq k (by omega)
        simp only at e e2
        simp only [spec_reader_escape.l0]
        rw [if_pos (by omega), here_f hs, Option.bind_some, e, Option.bind_some, hb, if_pos rfl, w1 (p := n) (by omega), w1 (by omega)]
        exact e2
      · unfold hexc
        exact decide_eq_true (by omega)

/-- What stands behind a backslash. -/
def EscAt (l r : List UInt8) : Prop := (∃ c, escs c = true ∧ l = c :: r) ∨ (∃ l', l = 117 :: l' ∧ HexN 4 l' r)
theorem EscAt.str {l r s : List UInt8} (h : EscAt l r) (h2 : StrIn r s) : StrIn (92 :: l) s := by
  rcases h with ⟨c, hc, rfl⟩ | ⟨l', rfl, a, l1, rfl, ha, b, l2, rfl, hb, c, l3, rfl, hc, d, l4, rfl, hd, rfl⟩
  · exact .esc c r s hc h2
  · exact .uni a b c d l4 s ha hb hc hd h2

theorem esc_j {t : ByteArray} (hs : t.size ≤ 2147483647) (x : Bool) (p : Nat) (hp : p ≤ t.size) (hx : x = true → ∃ hlt : p < t.size, escs t[p] = true) : ∃ (b : Bool) (q : Nat), Ev (fun k => spec_reader_escape.j0 k (hv t p) x t (p : Int)) (b, t, (q : Int)) ∧ (p ≤ q ∧ q ≤ t.size) ∧ (b = true → EscAt (L t p) (L t q)) := by
  cases x with
  | true =>
    obtain ⟨hlt, he⟩ := hx rfl
    exact ⟨true, p + 1, .succ (.const fun k => by simp only [spec_reader_escape.j0]; rw [if_pos trivial, w1 (by omega)]), by omega, fun _ => .inl ⟨_, he, L_cons hlt⟩⟩
  | false =>
    by_cases h : hv t p = 117
    · obtain ⟨hlt, hL⟩ := hv_L 117 (by decide) h
      obtain ⟨b, q, ⟨K, hq⟩, q1, q3⟩ := esc_l hs 4 0 (p + 1) rfl (by omega)
      refine ⟨b, q, .succ ⟨K, fun k hk => ?_⟩, by omega, fun hb => .inr ⟨_, hL, q3 hb⟩⟩
      have e := hq k hk
      simp only at e
      simp only [spec_reader_escape.j0]
      rw [if_neg (by decide), if_pos h, w1 (by omega)]
      exact e
    · exact ⟨false, p, .succ (.const fun k => by simp only [spec_reader_escape.j0]; rw [if_neg (by decide), if_neg h]), ⟨Nat.le_refl _, hp⟩, fun h => by cases h⟩

theorem esc_f {t : ByteArray} (hs : t.size ≤ 2147483647) (p : Nat) (hp : p ≤ t.size) : ∃ (b : Bool) (q : Nat), Ev (fun k => spec_reader_escape.f k t (p : Int)) (b, t, (q : Int)) ∧ (p ≤ q ∧ q ≤ t.size) ∧ (b = true → EscAt (L t p) (L t q)) := by
  have fin : ∀ x : Bool, (x = true → ∃ n : Nat, (0 < n ∧ n < 256) ∧ escs (UInt8.ofNat n) = true ∧ hv t p = (n : Int)) → (∀ k, spec_reader_escape.f k t (p : Int) = spec_reader_escape.j0 k (hv t p) x t (p : Int)) → ∃ (b : Bool) (q : Nat), Ev (fun k => spec_reader_escape.f k t (p : Int)) (b, t, (q : Int)) ∧ (p ≤ q ∧ q ≤ t.size) ∧ (b = true → EscAt (L t p) (L t q)) := by
    intro x hx he
    obtain ⟨b, q, hq, h⟩ := esc_j hs x p hp (fun e => by
      obtain ⟨n, hn, hc, hv1⟩ := hx e
      obtain ⟨hlt, h2⟩ := hv_lt (t := t) (p := p) (by omega)
      exact ⟨hlt, by rw [(u8e hn.2).1 (h2.symm.trans hv1)]; exact hc⟩)
    exact ⟨b, q, hq.congr he, h⟩
  have hu : ∀ k, spec_reader_escape.f k t (p : Int) = _ := fun k => by
    simp only [spec_reader_escape.f]
    rw [here_f hs, Option.bind_some]
  by_cases h1 : hv t p = 34
  · exact fin (hv t p == 34) (fun _ => ⟨34, by decide, by decide, h1⟩) fun k => by rw [hu k, if_pos h1]
  · by_cases h2 : hv t p = 92
    · exact fin (hv t p == 92) (fun _ => ⟨92, by decide, by decide, h2⟩) fun k => by rw [hu k, if_neg h1, if_pos h2]
    · by_cases h3 : hv t p = 47
      · exact fin (hv t p == 47) (fun _ => ⟨47, by decide, by decide, h3⟩) fun k => by rw [hu k, if_neg h1, if_neg h2, if_pos h3]
      · by_cases h4 : hv t p = 98
        · exact fin (hv t p == 98) (fun _ => ⟨98, by decide, by decide, h4⟩) fun k => by rw [hu k, if_neg h1, if_neg h2, if_neg h3, if_pos h4]
        · by_cases h5 : hv t p = 102
          · exact fin (hv t p == 102) (fun _ => ⟨102, by decide, by decide, h5⟩) fun k => by rw [hu k, if_neg h1, if_neg h2, if_neg h3, if_neg h4, if_pos h5]
          · by_cases h6 : hv t p = 110
            · exact fin (hv t p == 110) (fun _ => ⟨110, by decide, by decide, h6⟩) fun k => by rw [hu k, if_neg h1, if_neg h2, if_neg h3, if_neg h4, if_neg h5, if_pos h6]
            · by_cases h7 : hv t p = 114
              · exact fin (hv t p == 114) (fun _ => ⟨114, by decide, by decide, h7⟩) fun k => by rw [hu k, if_neg h1, if_neg h2, if_neg h3, if_neg h4, if_neg h5, if_neg h6, if_pos h7]
              · exact fin (hv t p == 116) (fun h => ⟨116, by decide, by decide, by simpa using h⟩) fun k => by rw [hu k, if_neg h1, if_neg h2, if_neg h3, if_neg h4, if_neg h5, if_neg h6, if_neg h7]

theorem quoted_l {t : ByteArray} (hs : t.size ≤ 2147483647) : ∀ (n p : Nat), t.size - p ≤ n → p ≤ t.size → ∃ (b : Bool) (q : Nat), Ev (fun k => spec_reader_quoted.l0 k t (p : Int)) (b, t, (q : Int)) ∧ (p ≤ q ∧ q ≤ t.size) ∧ (b = true → StrIn (L t p) (L t q)) := by
  intro n
  induction n with
  | zero =>
    intro p hn hp
    exact ⟨false, p, .succ (.const fun k => by simp only [spec_reader_quoted.l0]; rw [if_neg (by omega)]), ⟨Nat.le_refl _, hp⟩, fun h => by cases h⟩
  | succ n ih =>
    intro p hn hp
    by_cases hlt : p < t.size
    · have hbt := bt_nat hlt
      by_cases h1 : bt t (p : Int) = 34
      · refine ⟨true, p + 1, .succ (.const fun k => by simp only [spec_reader_quoted.l0]; rw [if_pos (by omega), if_pos (by omega), if_pos h1, w1 (by omega)]), by omega, fun _ => ?_⟩
        rw [L_cons hlt, (u8e (n := 34) (by decide)).1 (hbt.symm.trans h1)]
        exact .close _
      · by_cases h2 : bt t (p : Int) < 32
        · exact ⟨false, p + 1, .succ (.const fun k => by simp only [spec_reader_quoted.l0]; rw [if_pos (by omega), if_pos (by omega), if_neg h1, if_pos h2, w1 (by omega)]), by omega, fun h => by cases h⟩
        · by_cases h3 : bt t (p : Int) = 92
          · obtain ⟨b, q, ⟨K, hq⟩, q1, q3⟩ := esc_f hs (p + 1) (by omega)
            cases b with
            | false => exact ⟨false, q, .succ ⟨K, fun k hk => by have e := hq k hk; simp only at e; simp only [spec_reader_quoted.l0]; rw [if_pos (by omega), if_pos (by omega), if_neg h1, if_neg h2, if_pos h3, w1 (by omega), e, Option.bind_some, if_neg (by simp)]⟩, by omega, fun h => by cases h⟩
            | true =>
              obtain ⟨b2, r, ⟨K2, hr⟩, r1, r3⟩ := ih q (by omega) q1.2
              refine ⟨b2, r, .succ ⟨max K K2, fun k hk => by have e := hq k (by omega); have e2 := hr k (by omega); simp only at e e2; simp only [spec_reader_quoted.l0]; rw [if_pos (by omega), if_pos (by omega), if_neg h1, if_neg h2, if_pos h3, w1 (by omega), e, Option.bind_some, if_pos rfl, e2]⟩, by omega, fun h => ?_⟩
              rw [L_cons hlt, (u8e (n := 92) (by decide)).1 (hbt.symm.trans h3)]
              exact (q3 rfl).str (r3 h)
          · obtain ⟨b, q, ⟨K, hq⟩, q1, q3⟩ := ih (p + 1) (by omega) (by omega)
            refine ⟨b, q, .succ ⟨K, fun k hk => by have e := hq k hk; simp only at e; simp only [spec_reader_quoted.l0]; rw [if_pos (by omega), if_pos (by omega), if_neg h1, if_neg h2, if_neg h3, w1 (by omega), e]⟩, by omega, fun h => ?_⟩
            rw [L_cons hlt]
            rw [hbt] at h1 h2 h3
            exact .one _ _ _ (fun e => h1 ((u8e (n := 34) (by decide)).2 e)) (fun e => h3 ((u8e (n := 92) (by decide)).2 e)) (by omega) (q3 h)
    · exact ⟨false, p, .succ (.const fun k => by simp only [spec_reader_quoted.l0]; rw [if_neg (by omega)]), ⟨Nat.le_refl _, hp⟩, fun h => by cases h⟩

theorem quoted_f {t : ByteArray} (hs : t.size ≤ 2147483647) (p : Nat) (h34 : hv t p = 34) : ∃ (b : Bool) (q : Nat), Ev (fun k => spec_reader_quoted.f k t (p : Int)) (b, t, (q : Int)) ∧ (p < q ∧ q ≤ t.size) ∧ (b = true → ∃ s, L t p = 34 :: s ∧ StrIn s (L t q)) := by
  obtain ⟨hlt, hL⟩ := hv_L 34 (by decide) h34
  obtain ⟨b, q, hq, q1, q3⟩ := quoted_l hs _ (p + 1) (Nat.le_refl _) (by omega)
  exact ⟨b, q, hq.congr fun k => by simp only [spec_reader_quoted.f]; rw [w1 (by omega)], by omega, fun hb => ⟨_, hL, q3 hb⟩⟩

/-! ### The tree -/
mutual
def toS : JT → S36
  | .mk k b e nms ks => ⟨(k : Int), (b : Int), (e : Int), nms.map fun p => (⟨(p.1 : Int), (p.2 : Int)⟩ : S52), toSs ks⟩
def toSs : List JT → List S36
  | [] => []
  | T :: Ts => toS T :: toSs Ts
end
theorem toSs_app : ∀ a b : List JT, toSs (a ++ b) = toSs a ++ toSs b
  | [], _ => rfl
  | x :: a, b => by simp only [List.cons_append, toSs, toSs_app a b]

def VOK (t : ByteArray) (p : Nat) : Prop :=
  ∃ (kd : Int) (q : Nat) (nms : List S52) (ks : List S36) (ok : Bool), Ev (fun k => spec_reader_value.f k t (p : Int)) (kd, (p : Int), (q : Int), nms, ks, ok, t, (q : Int)) ∧ (p ≤ q ∧ q ≤ t.size) ∧
    (ok = true → p < q ∧ ∃ T, JV t.size (L t p) (L t q) T ∧ toS T = ⟨kd, (p : Int), (q : Int), nms, ks⟩)

theorem elems_l {t : ByteArray} (hs : t.size ≤ 2147483647) (p0 : Nat) (HV : ∀ p, p0 < p → p ≤ t.size → VOK t p) : ∀ (n i : Nat) (acc : List S36), t.size - i ≤ n → p0 < i → i ≤ t.size → acc.length ≤ i →
    ∃ (ks : List S36) (ok : Bool) (q : Nat), Ev (fun k => spec_reader_elements.l0 k acc t (i : Int)) (ks, ok, t, (q : Int)) ∧ (i ≤ q ∧ q ≤ t.size) ∧ (ok = true → i < q ∧ ∃ Ts, ks = acc ++ toSs Ts ∧ JEs t.size (L t i) (L t q) Ts) := by
  intro n
  induction n with
  | zero =>
    intro i acc hn hp0 hi hlen
    obtain ⟨kd, q, nms, ks, ok, ⟨K, hve⟩, v1, v3⟩ := HV i hp0 hi
    cases ok with
    | false => exact ⟨[], false, q, .succ ⟨K, fun k hk => by have e := hve k hk; simp only at e; simp only [spec_reader_elements.l0]; rw [e, Option.bind_some, if_neg (by simp)]⟩, v1, fun h => by cases h⟩
    | true => have := (v3 rfl).1; omega
  | succ n ih =>
    intro i acc hn hp0 hi hlen
    obtain ⟨kd, q, nms, ks, ok, ⟨K, hve⟩, v1, v3⟩ := HV i hp0 hi
    cases ok with
    | false => exact ⟨[], false, q, .succ ⟨K, fun k hk => by have e := hve k hk; simp only at e; simp only [spec_reader_elements.l0]; rw [e, Option.bind_some, if_neg (by simp)]⟩, v1, fun h => by cases h⟩
    | true =>
      obtain ⟨w1', T, hT, hS⟩ := v3 rfl
      obtain ⟨b1, ⟨K1, e1⟩, n1, B1⟩ := blanks_f hs q v1.2
      by_cases h93 : hv t b1 = 93
      · obtain ⟨hb, hc⟩ := hv_L 93 (by decide) h93
        refine ⟨acc ++ [⟨kd, (i : Int), (q : Int), nms, ks⟩], true, b1 + 1, .succ ⟨max K K1, fun k hk => ?_⟩, by omega, fun _ => ⟨by omega, [T], by rw [show toSs [T] = [toS T] from rfl, hS], .last _ _ _ T hT (B1.symm.trans hc)⟩⟩
        have f1 := hve k (by omega)
        have f2 := e1 k (by omega)
        simp only at f1 f2
        simp only [spec_reader_elements.l0]
        rw [f1, Option.bind_some, if_pos rfl, if_pos (by omega), Option.bind_some, f2, Option.bind_some, take_f hs b1 n1.2 93 (by decide), if_pos h93, Option.bind_some, if_pos rfl]
      · by_cases h44 : hv t b1 = 44
        · obtain ⟨hb, hc⟩ := hv_L 44 (by decide) h44
          obtain ⟨b2, ⟨K2, e2⟩, n3, B2⟩ := blanks_f hs (b1 + 1) (by omega)
          obtain ⟨ks2, ok2, q2, ⟨K3, e3⟩, u1, u3⟩ := ih b2 (acc ++ [⟨kd, (i : Int), (q : Int), nms, ks⟩]) (by omega) (by omega) n3.2 (by rw [List.length_append, List.length_singleton]; omega)
          refine ⟨ks2, ok2, q2, .succ ⟨max (max K K1) (max K2 K3), fun k hk => ?_⟩, by omega, fun h => ?_⟩
          · have f1 := hve k (by omega)
            have f2 := e1 k (by omega)
            have f3 := e2 k (by omega)
            have f4 := e3 k (by omega)
            simp only at f1 f2 f3 f4
            simp only [spec_reader_elements.l0]
            rw [f1, Option.bind_some, if_pos rfl, if_pos (by omega), Option.bind_some, f2, Option.bind_some, take_f hs b1 n1.2 93 (by decide), if_neg h93, Option.bind_some, if_neg (by simp), take_f hs b1 n1.2 44 (by decide), if_pos h44, Option.bind_some, if_pos rfl, f3, Option.bind_some, f4]
          · obtain ⟨x1, Ts, x2, x3⟩ := u3 h
            refine ⟨by omega, T :: Ts, ?_, .more _ _ _ _ T Ts hT (B1.symm.trans hc) (by rw [← B2]; exact x3)⟩
            rw [x2, show toSs (T :: Ts) = toS T :: toSs Ts from rfl, hS, List.append_assoc]
            rfl
        · refine ⟨[], false, b1, .succ ⟨max K K1, fun k hk => ?_⟩, by omega, fun h => by cases h⟩
          have f1 := hve k (by omega)
          have f2 := e1 k (by omega)
          simp only at f1 f2
          simp only [spec_reader_elements.l0]
          rw [f1, Option.bind_some, if_pos rfl, if_pos (by omega), Option.bind_some, f2, Option.bind_some, take_f hs b1 n1.2 93 (by decide), if_neg h93, Option.bind_some, if_neg (by simp), take_f hs b1 n1.2 44 (by decide), if_neg h44, Option.bind_some, if_neg (by simp)]

theorem elems_f {t : ByteArray} (hs : t.size ≤ 2147483647) (p : Nat) (hp : p < t.size) (HV : ∀ p', p < p' → p' ≤ t.size → VOK t p') :
    ∃ (ks : List S36) (ok : Bool) (q : Nat), Ev (fun k => spec_reader_elements.f k t (p : Int)) (ks, ok, t, (q : Int)) ∧ (p ≤ q ∧ q ≤ t.size) ∧ (ok = true → p < q ∧ ((ks = [] ∧ wsL (L t (p + 1)) = 93 :: L t q) ∨ ∃ Ts, ks = toSs Ts ∧ JEs t.size (wsL (L t (p + 1))) (L t q) Ts)) := by
  obtain ⟨b1, ⟨K1, e1⟩, n1, B1⟩ := blanks_f hs (p + 1) (by omega)
  by_cases h93 : hv t b1 = 93
  · obtain ⟨hb, hc⟩ := hv_L 93 (by decide) h93
    refine ⟨[], true, b1 + 1, .succ ⟨K1, fun k hk => ?_⟩, by omega, fun _ => ⟨by omega, .inl ⟨rfl, B1.symm.trans hc⟩⟩⟩
    have f1 := e1 k hk
    simp only at f1
    simp only [spec_reader_elements.f]
    rw [w1 (by omega), f1, Option.bind_some, take_f hs b1 n1.2 93 (by decide), if_pos h93, Option.bind_some, if_pos rfl]
  · obtain ⟨ks, ok, q, ⟨K, e⟩, u1, u3⟩ := elems_l hs p HV _ b1 [] (Nat.le_refl _) (by omega) n1.2 (Nat.zero_le _)
    refine ⟨ks, ok, q, .succ ⟨max K K1, fun k hk => ?_⟩, by omega, fun h => ?_⟩
    · have f1 := e1 k (by omega)
      have f2 := e k (by omega)
      simp only at f1 f2
      simp only [spec_reader_elements.f]
      rw [w1 (by omega), f1, Option.bind_some, take_f hs b1 n1.2 93 (by decide), if_neg h93, Option.bind_some, if_neg (by simp), f2]
    · obtain ⟨x1, Ts, x2, x3⟩ := u3 h
      exact ⟨by omega, .inr ⟨Ts, x2, by rw [← B1]; exact x3⟩⟩

def nmS (n : List (Nat × Nat)) : List S52 := n.map fun p => (⟨(p.1 : Int), (p.2 : Int)⟩ : S52)

theorem membs_l {t : ByteArray} (hs : t.size ≤ 2147483647) (p0 : Nat) (HV : ∀ p, p0 < p → p ≤ t.size → VOK t p) : ∀ (n i : Nat) (nm : List S52) (acc : List S36), t.size - i ≤ n → p0 < i → i ≤ t.size → acc.length ≤ i → nm.length ≤ i →
    ∃ (nms : List S52) (ks : List S36) (ok : Bool) (q : Nat), Ev (fun k => spec_reader_members.l0 k nm acc t (i : Int)) (nms, ks, ok, t, (q : Int)) ∧ (i ≤ q ∧ q ≤ t.size) ∧ (ok = true → i < q ∧ ∃ Ns Ts, nms = nm ++ nmS Ns ∧ ks = acc ++ toSs Ts ∧ JMs t.size (L t i) (L t q) Ns Ts) := by
  intro n
  induction n with
  | zero =>
    intro i nm acc hn hp0 hi hlen hnm
    have h34 : ¬ hv t i = 34 := by
      unfold hv
      rw [dif_neg (by omega)]
      decide
    refine ⟨[], [], false, i, .succ (.succ (.const fun k => ?_)), ⟨Nat.le_refl _, hi⟩, fun h => by cases h⟩
    simp only [spec_reader_members.l0, spec_reader_members.j1]
    rw [here_f hs, Option.bind_some, if_neg h34, if_pos trivial]
  | succ n ih =>
    intro i nm acc hn hp0 hi hlen hnm
    by_cases h34 : hv t i = 34
    · obtain ⟨bq, q0, ⟨Kq, eq0⟩, s1, s3⟩ := quoted_f hs i h34
      cases bq with
      | false =>
        refine ⟨[], [], false, q0, .succ ⟨Kq + 1, fun k hk => ?_⟩, by omega, fun h => by cases h⟩
        obtain ⟨k, rfl⟩ : ∃ m, k = m + 1 := ⟨k - 1, by omega⟩
        have f0 := eq0 (k + 1) (by omega)
        simp only at f0
        simp only [spec_reader_members.l0]
        rw [here_f hs, Option.bind_some, if_pos h34, f0, Option.bind_some]
        simp only [spec_reader_members.j1]
        rw [if_pos (by simp)]
      | true =>
        obtain ⟨s, hs0, hstr⟩ := s3 rfl
        obtain ⟨c1, ⟨M1, d1⟩, m1, B1⟩ := blanks_f hs q0 s1.2
        by_cases h58 : hv t c1 = 58
        · obtain ⟨hcl, hcl2⟩ := hv_L 58 (by decide) h58
          obtain ⟨c2, ⟨M2, d2⟩, m3, B2⟩ := blanks_f hs (c1 + 1) (by omega)
          obtain ⟨kd, q, nms, ks, ok, ⟨K, hve⟩, v1, v3⟩ := HV c2 (by omega) m3.2
          have HJ : ∀ k, max (max Kq M1) (max M2 K) ≤ k → spec_reader_members.l0 (k + 2) nm acc t (i : Int) = _ := fun k hk => by
            have f0 := eq0 (k + 1) (by omega)
            have f1 := d1 k (by omega)
            have f2 := d2 k (by omega)
            have f3 := hve k (by omega)
            simp only at f0 f1 f2 f3
            simp only [spec_reader_members.l0, spec_reader_members.j1]
            rw [here_f hs, Option.bind_some, if_pos h34, f0, Option.bind_some, if_neg (by simp), if_pos (by omega), Option.bind_some, f1, Option.bind_some, take_f hs c1 m1.2 58 (by decide), if_pos h58, Option.bind_some, if_pos rfl, f2, Option.bind_some, f3, Option.bind_some]
          cases ok with
          | false => exact ⟨[], [], false, q, .succ (.succ ⟨max (max Kq M1) (max M2 K), fun k hk => (HJ k hk).trans (if_neg (by simp))⟩), by omega, fun h => by cases h⟩
          | true =>
            obtain ⟨w1', T, hT, hS⟩ := v3 rfl
            obtain ⟨b1, ⟨K1, e1⟩, n1, B3⟩ := blanks_f hs q v1.2
            have hJ : JV t.size (wsL (L t (c1 + 1))) (L t q) T := by rw [← B2]; exact hT
            have hnmi : (⟨(i : Int), (q0 : Int)⟩ : S52) = ⟨((posL t.size (34 :: s) : Nat) : Int), ((posL t.size (L t q0) : Nat) : Int)⟩ := by
              rw [← hs0, L_pos t hi, L_pos t s1.2]
            by_cases h93 : hv t b1 = 125
            · obtain ⟨hb, hc⟩ := hv_L 125 (by decide) h93
              refine ⟨nm ++ [⟨(i : Int), (q0 : Int)⟩], acc ++ [⟨kd, (c2 : Int), (q : Int), nms, ks⟩], true, b1 + 1, .succ (.succ ⟨max (max (max Kq M1) (max M2 K)) K1, fun k hk => (HJ k (by omega)).trans ?_⟩), by omega, fun _ => ⟨by omega, [(posL t.size (34 :: s), posL t.size (L t q0))], [T], ?_, by rw [show toSs [T] = [toS T] from rfl, hS], by rw [hs0]; exact .last _ _ _ _ _ T hstr (B1.symm.trans hcl2) hJ (B3.symm.trans hc)⟩⟩
              · have f2 := e1 k (by omega)
                simp only at f2
                rw [if_pos rfl, if_pos (by omega), Option.bind_some, f2, Option.bind_some, take_f hs b1 n1.2 125 (by decide), if_pos h93, Option.bind_some, if_pos rfl]
              · rw [hnmi]
                rfl
            · by_cases h44 : hv t b1 = 44
              · obtain ⟨hb, hc⟩ := hv_L 44 (by decide) h44
                obtain ⟨b2, ⟨K2, e2⟩, n3, B4⟩ := blanks_f hs (b1 + 1) (by omega)
                obtain ⟨nm2, ks2, ok2, q2, ⟨K3, e3⟩, u1, u3⟩ := ih b2 (nm ++ [⟨(i : Int), (q0 : Int)⟩]) (acc ++ [⟨kd, (c2 : Int), (q : Int), nms, ks⟩]) (by omega) (by omega) n3.2 (by rw [List.length_append, List.length_singleton]; omega) (by rw [List.length_append, List.length_singleton]; omega)
                refine ⟨nm2, ks2, ok2, q2, .succ (.succ ⟨max (max (max Kq M1) (max M2 K)) (max K1 (max K2 K3)), fun k hk => (HJ k (by omega)).trans ?_⟩), by omega, fun h => ?_⟩
                · have f2 := e1 k (by omega)
                  have f3 := e2 k (by omega)
                  have f4 := e3 k (by omega)
                  simp only at f2 f3 f4
                  rw [if_pos rfl, if_pos (by omega), Option.bind_some, f2, Option.bind_some, take_f hs b1 n1.2 125 (by decide), if_neg h93, Option.bind_some, if_neg (by simp), take_f hs b1 n1.2 44 (by decide), if_pos h44, Option.bind_some, if_pos rfl, f3, Option.bind_some, f4]
                · obtain ⟨x1, Ns, Ts, x2, x3, x4⟩ := u3 h
                  refine ⟨by omega, (posL t.size (34 :: s), posL t.size (L t q0)) :: Ns, T :: Ts, ?_, ?_, by rw [hs0]; exact .more _ _ _ _ _ _ T Ns Ts hstr (B1.symm.trans hcl2) hJ (B3.symm.trans hc) (by rw [← B4]; exact x4)⟩
                  · rw [x2, hnmi, List.append_assoc]
                    rfl
                  · rw [x3, show toSs (T :: Ts) = toS T :: toSs Ts from rfl, hS, List.append_assoc]
                    rfl
              · refine ⟨[], [], false, b1, .succ (.succ ⟨max (max (max Kq M1) (max M2 K)) K1, fun k hk => (HJ k (by omega)).trans ?_⟩), by omega, fun h => by cases h⟩
                have f2 := e1 k (by omega)
                simp only at f2
                rw [if_pos rfl, if_pos (by omega), Option.bind_some, f2, Option.bind_some, take_f hs b1 n1.2 125 (by decide), if_neg h93, Option.bind_some, if_neg (by simp), take_f hs b1 n1.2 44 (by decide), if_neg h44, Option.bind_some, if_neg (by simp)]
        · refine ⟨[], [], false, c1, .succ (.succ ⟨max Kq M1, fun k hk => ?_⟩), by omega, fun h => by cases h⟩
          have f0 := eq0 (k + 1) (by omega)
          have f1 := d1 k (by omega)
          simp only at f0 f1
          simp only [spec_reader_members.l0, spec_reader_members.j1]
          rw [here_f hs, Option.bind_some, if_pos h34, f0, Option.bind_some, if_neg (by simp), if_pos (by omega), Option.bind_some, f1, Option.bind_some, take_f hs c1 m1.2 58 (by decide), if_neg h58, Option.bind_some, if_neg (by simp)]
    · refine ⟨[], [], false, i, .succ (.succ (.const fun k => ?_)), ⟨Nat.le_refl _, hi⟩, fun h => by cases h⟩
      simp only [spec_reader_members.l0, spec_reader_members.j1]
      rw [here_f hs, Option.bind_some, if_neg h34, if_pos trivial]

theorem membs_f {t : ByteArray} (hs : t.size ≤ 2147483647) (p : Nat) (hp : p < t.size) (HV : ∀ p', p < p' → p' ≤ t.size → VOK t p') :
    ∃ (nms : List S52) (ks : List S36) (ok : Bool) (q : Nat), Ev (fun k => spec_reader_members.f k t (p : Int)) (nms, ks, ok, t, (q : Int)) ∧ (p ≤ q ∧ q ≤ t.size) ∧ (ok = true → p < q ∧ ((nms = [] ∧ ks = [] ∧ wsL (L t (p + 1)) = 125 :: L t q) ∨ ∃ Ns Ts, nms = nmS Ns ∧ ks = toSs Ts ∧ JMs t.size (wsL (L t (p + 1))) (L t q) Ns Ts)) := by
  obtain ⟨b1, ⟨K1, e1⟩, n1, B1⟩ := blanks_f hs (p + 1) (by omega)
  by_cases h93 : hv t b1 = 125
  · obtain ⟨hb, hc⟩ := hv_L 125 (by decide) h93
    refine ⟨[], [], true, b1 + 1, .succ ⟨K1, fun k hk => ?_⟩, by omega, fun _ => ⟨by omega, .inl ⟨rfl, rfl, B1.symm.trans hc⟩⟩⟩
    have f1 := e1 k hk
    simp only at f1
    simp only [spec_reader_members.f]
    rw [w1 (by omega), f1, Option.bind_some, take_f hs b1 n1.2 125 (by decide), if_pos h93, Option.bind_some, if_pos rfl]
  · obtain ⟨nms, ks, ok, q, ⟨K, e⟩, u1, u3⟩ := membs_l hs p HV _ b1 [] [] (Nat.le_refl _) (by omega) n1.2 (Nat.zero_le _) (Nat.zero_le _)
    refine ⟨nms, ks, ok, q, .succ ⟨max K K1, fun k hk => ?_⟩, by omega, fun h => ?_⟩
    · have f1 := e1 k (by omega)
      have f2 := e k (by omega)
      simp only at f1 f2
      simp only [spec_reader_members.f]
      rw [w1 (by omega), f1, Option.bind_some, take_f hs b1 n1.2 125 (by decide), if_neg h93, Option.bind_some, if_neg (by simp), f2]
    · obtain ⟨x1, Ns, Ts, x2, x3, x4⟩ := u3 h
      exact ⟨by omega, .inr ⟨Ns, Ts, x2, x3, by rw [← B1]; exact x4⟩⟩

theorem value_j0 {t : ByteArray} (hs : t.size ≤ 2147483647) (p : Nat) (hp : p ≤ t.size) (x : Bool) (hx : x = true → ∃ hlt : p < t.size, t[p] = 45 ∨ dgt t[p] = true) :
    ∃ (kd : Int) (q : Nat) (ok : Bool), Ev (fun k => spec_reader_value.j0 k true x t (p : Int) 0 (p : Int) 0) (kd, (p : Int), (q : Int), [], [], ok, t, (q : Int)) ∧ (p ≤ q ∧ q ≤ t.size) ∧ (ok = true → p < q ∧ ∃ T, JV t.size (L t p) (L t q) T ∧ toS T = ⟨kd, (p : Int), (q : Int), [], []⟩) := by
  cases x with
  | true =>
    obtain ⟨hlt, hc⟩ := hx rfl
    obtain ⟨b, q, ⟨K, e⟩, n1, d1⟩ := number_f hs p hp
    refine ⟨3, q, b, .succ ⟨K, fun k hk => by have f := e k hk; simp only at f; simp only [spec_reader_value.j0]; rw [if_pos trivial, f, Option.bind_some]⟩, n1, fun hb => ?_⟩
    rw [if_pos hb] at d1
    have hl := numL_lt d1
    rw [L_len, L_len] at hl
    refine ⟨by omega, _, by rw [L_cons hlt] at d1 ⊢; exact .num _ _ _ hc d1, ?_⟩
    rw [← L_cons hlt, L_pos t hp, L_pos t n1.2]
    rfl
  | false =>
    obtain ⟨b1, q1, e1, n1, g1, z1⟩ := word_f hs p hp (⟨#[110, 117, 108, 108]⟩ : ByteArray) (by decide)
    cases b1 with
    | true =>
      obtain ⟨h1, h2'⟩ := g1 rfl
      have h2 : L t p = 110 :: 117 :: 108 :: 108 :: L t q1 := h2'
      rw [show (⟨#[110, 117, 108, 108]⟩ : ByteArray).size = 4 from rfl] at h1
      refine ⟨0, q1, true, .succ (.const fun k => by simp only [spec_reader_value.j0]; rw [if_neg (by decide), e1, Option.bind_some, if_pos rfl]), n1, fun _ => ⟨by omega, _, by rw [h2]; exact .nul _, ?_⟩⟩
      rw [show (110 :: 117 :: 108 :: 108 :: L t q1) = L t p from h2.symm, L_pos t hp, L_pos t n1.2]
      rfl
    | false =>
      have z1' := z1 rfl
      subst z1'
      obtain ⟨b2, q2, e2, n2, g2, z2⟩ := word_f hs q1 hp (⟨#[102, 97, 108, 115, 101]⟩ : ByteArray) (by decide)
      cases b2 with
      | true =>
        obtain ⟨h1, h2'⟩ := g2 rfl
        have h2 : L t q1 = 102 :: 97 :: 108 :: 115 :: 101 :: L t q2 := h2'
        rw [show (⟨#[102, 97, 108, 115, 101]⟩ : ByteArray).size = 5 from rfl] at h1
        refine ⟨1, q2, true, .succ (.const fun k => by simp only [spec_reader_value.j0]; rw [if_neg (by decide), e1, Option.bind_some, if_neg (by simp), e2, Option.bind_some, if_pos rfl]), n2, fun _ => ⟨by omega, _, by rw [h2]; exact .fls _, ?_⟩⟩
        rw [show (102 :: 97 :: 108 :: 115 :: 101 :: L t q2) = L t q1 from h2.symm, L_pos t hp, L_pos t n2.2]
        rfl
      | false =>
        have z2' := z2 rfl
        subst z2'
        obtain ⟨b3, q3, e3, n3, g3, z3⟩ := word_f hs q2 hp (⟨#[116, 114, 117, 101]⟩ : ByteArray) (by decide)
        cases b3 with
        | true =>
          obtain ⟨h1, h2'⟩ := g3 rfl
          have h2 : L t q2 = 116 :: 114 :: 117 :: 101 :: L t q3 := h2'
          rw [show (⟨#[116, 114, 117, 101]⟩ : ByteArray).size = 4 from rfl] at h1
          refine ⟨2, q3, true, .succ (.const fun k => by simp only [spec_reader_value.j0]; rw [if_neg (by decide), e1, Option.bind_some, if_neg (by simp), e2, Option.bind_some, if_neg (by simp), e3, Option.bind_some, if_pos rfl]), n3, fun _ => ⟨by omega, _, by rw [h2]; exact .tru _, ?_⟩⟩
          rw [show (116 :: 114 :: 117 :: 101 :: L t q3) = L t q2 from h2.symm, L_pos t hp, L_pos t n3.2]
          rfl
        | false => exact ⟨0, q3, false, .succ (.const fun k => by simp only [spec_reader_value.j0]; rw [if_neg (by decide), e1, Option.bind_some, if_neg (by simp), e2, Option.bind_some, if_neg (by simp), e3, Option.bind_some, if_neg (by simp)]), n3, fun h => by cases h⟩

theorem value_ok {t : ByteArray} (hs : t.size ≤ 2147483647) : ∀ (n p : Nat), t.size - p ≤ n → p ≤ t.size → VOK t p := by
  intro n
  induction n using Nat.strongRecOn with
  | _ n ih =>
  intro p hn hp
  have HV : p < t.size → ∀ p', p < p' → p' ≤ t.size → VOK t p' := fun hlt p' h1 h2 => ih (t.size - p') (by omega) p' (Nat.le_refl _) h2
  by_cases h123 : hv t p = 123
  · obtain ⟨hlt, hL⟩ := hv_L 123 (by decide) h123
    obtain ⟨nms, ks, ok, q, ⟨K, e⟩, u1, u3⟩ := membs_f hs p hlt (HV hlt)
    refine ⟨6, q, nms, ks, ok, .succ ⟨K, fun k hk => ?_⟩, u1, fun h => ?_⟩
    · have f := e k hk
      simp only at f
      simp only [spec_reader_value.f]
      rw [here_f hs, Option.bind_some, if_pos h123, f, Option.bind_some]
    · obtain ⟨x1, x2⟩ := u3 h
      refine ⟨x1, ?_⟩
      rcases x2 with ⟨rfl, rfl, x3⟩ | ⟨Ns, Ts, rfl, rfl, x3⟩
      · refine ⟨_, by rw [hL]; exact .obj0 _ _ x3, ?_⟩
        rw [show (123 :: L t (p + 1)) = L t p from hL.symm, L_pos t hp, L_pos t u1.2]
        rfl
      · refine ⟨_, by rw [hL]; exact .obj _ _ Ns Ts x3, ?_⟩
        rw [show (123 :: L t (p + 1)) = L t p from hL.symm, L_pos t hp, L_pos t u1.2]
        rfl
  · by_cases h91 : hv t p = 91
    · obtain ⟨hlt, hL⟩ := hv_L 91 (by decide) h91
      obtain ⟨ks, ok, q, ⟨K, e⟩, u1, u3⟩ := elems_f hs p hlt (HV hlt)
      refine ⟨5, q, [], ks, ok, .succ ⟨K, fun k hk => ?_⟩, u1, fun h => ?_⟩
      · have f := e k hk
        simp only at f
        simp only [spec_reader_value.f]
        rw [here_f hs, Option.bind_some, if_neg h123, if_pos h91, f, Option.bind_some]
      · obtain ⟨x1, x2⟩ := u3 h
        refine ⟨x1, ?_⟩
        rcases x2 with ⟨rfl, x3⟩ | ⟨Ts, rfl, x3⟩
        · refine ⟨_, by rw [hL]; exact .arr0 _ _ x3, ?_⟩
          rw [show (91 :: L t (p + 1)) = L t p from hL.symm, L_pos t hp, L_pos t u1.2]
          rfl
        · refine ⟨_, by rw [hL]; exact .arr _ _ Ts x3, ?_⟩
          rw [show (91 :: L t (p + 1)) = L t p from hL.symm, L_pos t hp, L_pos t u1.2]
          rfl
    · by_cases h34 : hv t p = 34
      · obtain ⟨b, q, ⟨K, e⟩, u1, u3⟩ := quoted_f hs p h34
        refine ⟨4, q, [], [], b, .succ ⟨K, fun k hk => ?_⟩, by omega, fun h => ?_⟩
        · have f := e k hk
          simp only at f
          simp only [spec_reader_value.f]
          rw [here_f hs, Option.bind_some, if_neg h123, if_neg h91, if_pos h34, f, Option.bind_some]
        · obtain ⟨s, hs0, hstr⟩ := u3 h
          refine ⟨u1.1, _, by rw [hs0]; exact .str _ _ hstr, ?_⟩
          rw [← hs0, L_pos t hp, L_pos t u1.2]
          rfl
      · have fin : ∀ x : Bool, (x = true → ∃ hlt : p < t.size, t[p] = 45 ∨ dgt t[p] = true) → (∀ k, spec_reader_value.f (k + 1) t (p : Int) = spec_reader_value.j0 k true x t (p : Int) 0 (p : Int) 0) → VOK t p := by
          intro x hx he
          obtain ⟨kd, q, ok, e, n1, g1⟩ := value_j0 hs p hp x hx
          exact ⟨kd, q, [], [], ok, .succ (e.congr he), n1, g1⟩
        have hu : ∀ k, spec_reader_value.f (k + 1) t (p : Int) = _ := fun k => by
          simp only [spec_reader_value.f]
          rw [here_f hs, Option.bind_some, if_neg h123, if_neg h91, if_neg h34]
        by_cases h45 : hv t p = 45
        · obtain ⟨hlt, h2⟩ := hv_lt (t := t) (p := p) (by omega)
          exact fin true (fun _ => ⟨hlt, .inl ((u8e (n := 45) (by decide)).1 (h2.symm.trans h45))⟩) fun k => by rw [hu k, if_pos h45]
        · by_cases h48 : 48 ≤ hv t p
          · obtain ⟨hlt, h2⟩ := hv_lt (t := t) (p := p) (by omega)
            exact fin (decide (hv t p ≤ 57)) (fun h => ⟨hlt, .inr ((dgt_hv hlt).2 ⟨h48, of_decide_eq_true h⟩)⟩) fun k => by rw [hu k, if_neg h45, if_pos h48]
          · exact fin false (fun h => by cases h) fun k => by rw [hu k, if_neg h45, if_neg h48]

/-- spec.Places, of the reader's list functions. -/
def placesF (k : Nat) (a0 : ByteArray) : Option (Int × Int × Int × (List (S52)) × (List (S36)) × Bool) :=
  (spec_reader_blanks.f k a0 0).bind fun b1 => ((spec_reader_value.f k b1.1 b1.2).bind fun v => (if v.2.2.2.2.2.1 = true then ((spec_reader_blanks.f k v.2.2.2.2.2.2.1 v.2.2.2.2.2.2.2).bind fun b2 => (if b2.2 = (a0.size : Int) then (some (v.1, v.2.1, v.2.2.1, v.2.2.2.1, v.2.2.2.2.1, true)) else (some (0, 0, 0, ([] : List (S52)), ([] : List (S36)), false)))) else (some (0, 0, 0, ([] : List (S52)), ([] : List (S36)), false))))

/-- A JSON text: one value with blanks around it. -/
def JText (l : List UInt8) (T : JT) : Prop := ∃ r, JV l.length (wsL l) r T ∧ wsL r = []

theorem places_ok (t : ByteArray) (hs : t.size ≤ 2147483647) : ∃ (k : Nat) (r1 r2 r3 : Int) (r4 : List S52) (r5 : List S36) (r6 : Bool), (∀ j, k ≤ j → placesF j t = some (r1, r2, r3, r4, r5, r6)) ∧
    (r6 = true → ∃ T, JText t.data.toList T ∧ toS T = ⟨r1, r2, r3, r4, r5⟩) := by
  obtain ⟨q0, ⟨K0, e0⟩, n0, B0⟩ := blanks_f hs 0 (by omega)
  obtain ⟨kd, q, nms, ks, ok, ⟨K1, e1⟩, v1, v3⟩ := value_ok hs _ q0 (Nat.le_refl _) n0.2
  cases ok with
  | false =>
    refine ⟨max K0 K1, 0, 0, 0, [], [], false, fun j hj => ?_, fun h => by cases h⟩
    have f0 := e0 j (by omega)
    have f1 := e1 j (by omega)
    simp only at f0 f1
    simp only [placesF]
    rw [show (0 : Int) = ((0 : Nat) : Int) from rfl, f0, Option.bind_some, f1, Option.bind_some, if_neg (by simp)]
  | true =>
    obtain ⟨x1, T, hT, hS⟩ := v3 rfl
    obtain ⟨q3, ⟨K3, e3⟩, n3, B3⟩ := blanks_f hs q v1.2
    by_cases hq : ((q3 : Nat) : Int) = (t.size : Int)
    · refine ⟨max (max K0 K1) K3, kd, (q0 : Int), (q : Int), nms, ks, true, fun j hj => ?_, fun _ => ⟨T, ⟨L t q, ?_, ?_⟩, hS⟩⟩
      · have f0 := e0 j (by omega)
        have f1 := e1 j (by omega)
        have f3 := e3 j (by omega)
        simp only at f0 f1 f3
        simp only [placesF]
        rw [show (0 : Int) = ((0 : Nat) : Int) from rfl, f0, Option.bind_some, f1, Option.bind_some, if_pos rfl, f3, Option.bind_some, if_pos hq]
      · rw [B0] at hT
        rw [show t.data.toList.length = t.size from Array.length_toList]
        exact hT
      · rw [← B3]
        exact L_nil (by omega)
    · refine ⟨max (max K0 K1) K3, 0, 0, 0, [], [], false, fun j hj => ?_, fun h => by cases h⟩
      have f0 := e0 j (by omega)
      have f1 := e1 j (by omega)
      have f3 := e3 j (by omega)
      simp only at f0 f1 f3
      simp only [placesF]
      rw [show (0 : Int) = ((0 : Nat) : Int) from rfl, f0, Option.bind_some, f1, Option.bind_some, if_pos rfl, f3, Option.bind_some, if_neg hq]
end Go.Proofs.Ytdokakhhpcckaaa.Pure
