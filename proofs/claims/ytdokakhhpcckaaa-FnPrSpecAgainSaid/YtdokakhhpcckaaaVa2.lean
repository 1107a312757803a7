/- The walk of gjson's validarray: where an array's rest stands (of the grammar), it tells the place behind it. Condition: the text takes at most 2^31 - 1 bytes. -/
import Derived.Test.YtdokakhhpcckaaaVa1
namespace Go.Proofs.Ytdokakhhpcckaaa
open Go.RowKit Go.Proofs.Ytdokakhhpcckaaa.MFnPrSpecAgain Go.Proofs.YtdokakhhpcckaaaW.PrintWords Go.Proofs.YtdokakhhpcckaaaW.PrintLast Go.Proofs.Ytdokakhhpcckaaa.Pure

theorem c_comW {t : ByteArray} {B c i : Nat} (hs : t.size ≤ 2147483647 ∧ t.size ≤ c) (hi : i ≤ t.size) (en x : UInt8) (hx : x = 44 ∨ x = en) {r : List UInt8} (h : wsL (L t i) = x :: r) :
    ∃ m, L t m = x :: r ∧ (i ≤ m ∧ m < t.size) ∧ ∀ W, Rd t B W → Calls Try.prog 36 #[.slice (some ⟨B, 0, none⟩) t.size c, .int .i64 (i : Int), .int .u8 (en.toNat : Int)] W (VQ m W) := by
  obtain ⟨m, e1, e2, ⟨K, e3⟩⟩ := vcomma_f hs.1 en x hx _ i rfl hi h
  refine ⟨m, e1, e2, fun W hR => ?_⟩
  have hc := gjson_validcomma.calls K (some ⟨B, 0, none⟩) c (D t) (i : Int) (en.toNat : Int) (m : Int) true W (hR.C hs.1) (by rw [D_len]; exact hs.2) (e3 K (Nat.le_refl _))
  rw [D_len] at hc
  exact hc

theorem jv_head {n : Nat} {x : UInt8} {l r : List UInt8} {T : JT} (h : JV n (x :: l) r T) : x = 34 ∨ x = 45 ∨ dgt x = true ∨ x = 110 ∨ x = 102 ∨ x = 116 ∨ x = 91 ∨ x = 123 := by
  cases h with
  | str _ _ _ => exact .inl rfl
  | num _ _ _ h1 _ => exact h1.elim (fun e => .inr (.inl e)) (fun e => .inr (.inr (.inl e)))
  | nul _ => simp
  | fls _ => simp
  | tru _ => simp
  | arr0 _ _ _ => simp
  | arr _ _ _ _ => simp
  | obj0 _ _ _ => simp
  | obj _ _ _ _ _ => simp
theorem jv_head_ne {n : Nat} {x : UInt8} {l r : List UInt8} {T : JT} (h : JV n (x :: l) r T) : x ≠ 93 ∧ x ≠ 125 ∧ x ≠ 44 ∧ x ≠ 58 ∧ x ≠ 47 := by
  rcases jv_head h with e | e | e | e | e | e | e | e
  · subst e; decide
  · subst e; decide
  · rcases dgt_ten e with e | e | e | e | e | e | e | e | e | e <;> subst e <;> decide
  · subst e; decide
  · subst e; decide
  · subst e; decide
  · subst e; decide
  · subst e; decide
theorem je_cons {n : Nat} {l r : List UInt8} {Ts : List JT} (h : JEs n l r Ts) : ∃ m T, JV n l m T := by
  cases h with
  | last _ m _ T h1 _ => exact ⟨m, T, h1⟩
  | more _ m _ _ T _ h1 _ _ => exact ⟨m, T, h1⟩
theorem ne8 {c : UInt8} (n : Nat) (hn : n < 256) (h : c ≠ UInt8.ofNat n) : ((c.toNat : Int) == (n : Int)) = false := by
  rw [beq_eq_false_iff_ne]
  exact fun e => h ((u8e hn).1 e)
theorem blk_ne {c : UInt8} (h : blk c = false) : ((c.toNat : Int) == 32) = false ∧ ((c.toNat : Int) == 9) = false ∧ ((c.toNat : Int) == 10) = false ∧ ((c.toNat : Int) == 13) = false := by
  unfold blk at h
  simp only [Bool.or_eq_false_iff, beq_eq_false_iff_ne] at h
  exact ⟨ne8 32 (by decide) h.1.1.1, ne8 9 (by decide) h.1.1.2, ne8 10 (by decide) h.1.2, ne8 13 (by decide) h.2⟩

theorem drawn_trans {w w1 w2 : World} (h : Drawn0 w w1) (g : Drawn0 w1 w2) : Drawn0 w w2 := by
  obtain ⟨n, rfl⟩ := g.out
  exact h.step n

set_option maxHeartbeats 4000000 in
set_option maxRecDepth 100000 in
theorem arr_walk {t : ByteArray} {B c N : Nat} (hs : t.size ≤ 2147483647 ∧ t.size ≤ c ∧ c ≤ 9223372036854775807) (hV : VAny t B c N) : VArr t B c N := by
  intro p q W hR hp hq hN hJ
  have HR := Lib.hid hR
  have HV := Lib.hid hV
  have HJ := Lib.hid hJ
  have hsc : t.size ≤ 2147483647 ∧ t.size ≤ c := ⟨hs.1, hs.2.1⟩
  have hne0 : wsL (L t p) ≠ [] := by
    rcases hJ with h | ⟨Ts, h⟩
    · rw [h]; simp
    · obtain ⟨s, e1, e2⟩ := je_after h
      intro e
      rw [e] at e1
      have := congrArg List.length e1
      rw [List.length_append] at this
      simp at this
      omega
  have HNE := Lib.hid hne0
  clear hR hV hJ hne0
  go_enter Try.func29, Try.ntmps29
  go_wp2
  go_loopg [1] (t.size + 1) (fun g v1 wc => ∃ i : Nat, v1 = .int .i64 (i : Int) ∧ (p ≤ i ∧ i ≤ t.size ∧ t.size < i + g) ∧ Hid (wsL (L t i) = wsL (L t p)) ∧ W = wc)
  case atStart => exact ⟨p, by go_num, by omega, Lib.hid rfl, rfl⟩
  case round =>
    obtain ⟨i, rfl, hI, HE, rfl⟩ := hrel
    cases gk with
    | zero => omega
    | succ j =>
    have hne : L t i ≠ [] := by
      intro e
      apply HNE.out
      rw [← HE.out, e]
      rfl
    obtain ⟨x, l, hl⟩ := List.exists_cons_of_ne_nil hne
    obtain ⟨hlt, _, hr⟩ := L_hv hl
    have hcell := HR.out.lit hl
    have hlt2 : i < t.size ∧ True := ⟨hlt, trivial⟩
    have bi : decide ((i : Int) < (t.size : Int)) = true := decide_eq_true (by omega)
    clear hne
    by_cases hb : blk x = true
    · have H2 : Hid (wsL (L t (i + 1)) = wsL (L t p)) := Lib.hid (by rw [← HE.out, hl, wsL_cons, if_pos hb, hr])
      clear hl hr
      rcases blk_four hb with e | e | e | e
      · subst e
        have hcell : W.cell? ⟨B, i, none⟩ = some (.int .u8 32) := hcell
        clear hb
        go_wp2
        go_roundg j
        case rel => exact ⟨i + 1, by go_num, by omega, H2, rfl⟩
        case measure => omega
      · subst e
        have hcell : W.cell? ⟨B, i, none⟩ = some (.int .u8 9) := hcell
        clear hb
        go_wp2
        go_roundg j
        case rel => exact ⟨i + 1, by go_num, by omega, H2, rfl⟩
        case measure => omega
      · subst e
        have hcell : W.cell? ⟨B, i, none⟩ = some (.int .u8 10) := hcell
        clear hb
        go_wp2
        go_roundg j
        case rel => exact ⟨i + 1, by go_num, by omega, H2, rfl⟩
        case measure => omega
      · subst e
        have hcell : W.cell? ⟨B, i, none⟩ = some (.int .u8 13) := hcell
        clear hb
        go_wp2
        go_roundg j
        case rel => exact ⟨i + 1, by go_num, by omega, H2, rfl⟩
        case measure => omega
    · have hb : blk x = false := by simpa using hb
      have hws : wsL (L t p) = x :: l := by rw [← HE.out, hl, wsL_of hb]
      rcases HJ.out with h93 | ⟨Ts, hJE⟩
      · rw [hws] at h93
        obtain ⟨e1, e2⟩ := List.cons.inj h93
        subst e1
        have hqi : q = i + 1 := L_inj hq (by omega) (e2.symm.trans hr)
        subst hqi
        have hcell : W.cell? ⟨B, i, none⟩ = some (.int .u8 93) := hcell
        clear hb hl hr hws h93 e2
        go_wp2
        go_ret2
        exact ⟨by (try simp); (try omega), .refl _⟩
      · rw [hws] at hJE
        obtain ⟨m0, T0, hj0⟩ := je_cons hJE
        obtain ⟨b32, b9, b10, b13⟩ := blk_ne hb
        have b93 : ((x.toNat : Int) == 93) = false := ne8 93 (by decide) (jv_head_ne hj0).1
        have HE0 : Hid (JEs t.size (wsL (L t i)) (L t q) Ts) := Lib.hid (by rw [HE.out, hws]; exact hJE)
        clear hb hl hr hws hJE hj0
        go_wp2
        go_loopg [1] (t.size + 1) (fun g v1 wc => ∃ (i2 : Nat) (Ts : List JT), v1 = .int .i64 (i2 : Int) ∧ (p ≤ i2 ∧ i2 ≤ t.size ∧ t.size < i2 + g) ∧ Hid (JEs t.size (wsL (L t i2)) (L t q) Ts) ∧ Hid (Drawn0 W wc))
        case atStart => exact ⟨i, Ts, by go_num, by omega, HE0, Lib.hid (.refl _)⟩
        case round =>
          clear HE0 b32 b9 b10 b13 b93 hcell
          obtain ⟨i2, Ts2, rfl, hI2, HE2, HD⟩ := hrel
          cases gk with
          | zero => omega
          | succ j2 =>
          obtain ⟨i3, hws3, hi3⟩ := ws_at (t := t) (p := i2) hI2.2.1
          have hje := HE2.out
          have hlt3 : i2 < t.size := by
            obtain ⟨q', e1, e2, e3⟩ := L_after hi3.2 (hws3 ▸ je_after hje)
            omega
          have bi2 : decide ((i2 : Int) < (t.size : Int)) = true := decide_eq_true (by omega)
          have bi3 : (i2 < t.size) = True := eq_true hlt3
          have HV2 := Lib.hid fun q T hq hj => HV.out i2 q T wr (HR.out.drawn HD.out) hI2.2.1 hq (by omega) hj
          generalize hl : wsL (L t i2) = l2 at hje
          generalize hr : L t q = r2 at hje
          cases hje with
          | last _ m _ T h1 h2 =>
            subst hl hr
            have haft := jv_after h1
            rw [hws3] at haft
            obtain ⟨m1, rfl, hm1, hm2⟩ := L_after hi3.2 haft
            obtain ⟨m2, e1, e2, e3⟩ := c_comW (B := B) hsc hm2 93 93 (.inr rfl) h2
            obtain ⟨hlt4, _, e4⟩ := L_hv e1
            have hqi : q = m2 + 1 := L_inj hq (by omega) e4
            subst hqi
            have HC1 := Lib.hid (HV2.out m1 T hm2 h1)
            have HC2 := Lib.hid e3
            have HCell : Hid (∀ W', Rd t B W' → W'.cell? ⟨B, m2, none⟩ = some (.int .u8 93)) := Lib.hid fun W' h => h.lit e1
            have hm2' : m2 < t.size ∧ True := ⟨hlt4, trivial⟩
            clear haft e1 e3 e4 h1 h2 HV2 hws3
            go_wp2_with (first | (go_at_call 25; refine HC1.out.mono ?_; rintro e w2 ⟨rfl, hd⟩; have HD2 := Lib.hid hd; clear hd; have HR2 := Lib.hid ((HR.out.drawn HD.out).drawn HD2.out); have HC3 := Lib.hid (HC2.out w2 HR2.out)) | (go_at_call 36; refine HC3.out.mono ?_; rintro e w3 ⟨rfl, hd⟩; have HD3 := Lib.hid hd; clear hd; have hc3 := HCell.out w3 (HR2.out.drawn HD3.out)) | fail)
            go_ret2
            exact ⟨by (try simp); (try omega), drawn_trans (drawn_trans HD.out HD2.out) HD3.out⟩
          | more _ m m' _ T Ts3 h1 h2 h3 =>
            subst hl hr
            have haft := jv_after h1
            rw [hws3] at haft
            obtain ⟨m1, rfl, hm1, hm2⟩ := L_after hi3.2 haft
            obtain ⟨m2, e1, e2, e3⟩ := c_comW (B := B) hsc hm2 93 44 (.inl rfl) h2
            obtain ⟨hlt4, _, e4⟩ := L_hv e1
            subst e4
            have HC1 := Lib.hid (HV2.out m1 T hm2 h1)
            have HC2 := Lib.hid e3
            have HCell : Hid (∀ W', Rd t B W' → W'.cell? ⟨B, m2, none⟩ = some (.int .u8 44)) := Lib.hid fun W' h => h.lit e1
            have hm2' : m2 < t.size ∧ True := ⟨hlt4, trivial⟩
            have HE3 := Lib.hid h3
            clear haft e1 e3 h1 h2 h3 HV2 hws3
            go_wp2_with (first | (go_at_call 25; refine HC1.out.mono ?_; rintro e w2 ⟨rfl, hd⟩; have HD2 := Lib.hid hd; clear hd; have HR2 := Lib.hid ((HR.out.drawn HD.out).drawn HD2.out); have HC3 := Lib.hid (HC2.out w2 HR2.out)) | (go_at_call 36; refine HC3.out.mono ?_; rintro e w3 ⟨rfl, hd⟩; have HD3 := Lib.hid hd; clear hd; have hc3 := HCell.out w3 (HR2.out.drawn HD3.out)) | fail)
            go_roundg j2
            case rel => exact ⟨m2 + 1, Ts3, by go_num, by omega, HE3, Lib.hid (drawn_trans (drawn_trans HD.out HD2.out) HD3.out)⟩
            case measure => omega
end Go.Proofs.Ytdokakhhpcckaaa
