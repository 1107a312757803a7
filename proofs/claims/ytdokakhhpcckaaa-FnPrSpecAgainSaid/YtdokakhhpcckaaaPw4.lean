/- pretty's Spec, the printed list function, told forwards: comments, and the whole. Condition: the text takes at most 2^31 - 1 bytes. -/
import Derived.Test.YtdokakhhpcckaaaPw3
namespace Go.Proofs.Ytdokakhhpcckaaa.Pure
set_option linter.unusedVariables false
open Go.RowKit Go.Proofs.Ytdokakhhpcckaaa Go.Proofs.Ytdokakhhpcckaaa.MFnPrSpecAgain Go.Proofs.YtdokakhhpcckaaaW.PrintWords Go.Proofs.YtdokakhhpcckaaaW.PrintLast

section
variable {t : ByteArray}

theorem p_push_eq (hs : t.size ≤ 2147483647) {p : Nat} {c : UInt8} {l : List UInt8} (hl : L t p = c :: l) (h47 : c ≠ 47) (h34 : c ≠ 34) (h125 : c ≠ 125) (h93 : c ≠ 93) (d : List UInt8) (hd : d.length ≤ 4294967296) (k : Nat) :
    pretty_spec.l0 (k + 3) (D t) (I d) (p : Int) = pretty_spec.l0 k (D t) (I (d ++ [c])) ((p + 1 : Nat) : Int) := by
  obtain ⟨hlt, hv1, _⟩ := L_hv hl
  have n (m : Nat) (hm : m < 256) (hc : c ≠ UInt8.ofNat m) : ¬ hv t p = (m : Int) := by rw [hv1]; exact fun e => hc ((u8e hm).1 e)
  have b93 : (hv t p == 93) = false := by rw [beq_eq_false_iff_ne]; exact n 93 (by decide) h93
  have n47 : ¬ hv t p = 47 := n 47 (by decide) h47
  have n34 : ¬ hv t p = 34 := n 34 (by decide) h34
  have n125 : ¬ hv t p = 125 := n 125 (by decide) h125
  simp only [pretty_spec.l0, pretty_spec.j4, pretty_spec.j7]
  rw [D_len, rd_D, if_pos (by omega), if_pos (by omega), if_neg n47, I_len, if_pos (by omega), if_pos (by omega), if_pos (by omega), Option.bind_some, if_neg n34, if_neg n125, b93, if_neg (by decide), w1 (by omega), hv1, I_snoc]

theorem seg_nil {p q : Nat} {s : List UInt8} (hp : p ≤ t.size) (h : L t p = s ++ L t q) (hq : q ≤ t.size) : p + s.length = q := by
  have := congrArg List.length h
  rw [L_len, List.length_append, L_len] at this
  omega

theorem p_line (hs : t.size ≤ 2147483647) (z : List Int) : ∀ (n i q : Nat) (s d : List UInt8), t.size - i = n → i ≤ t.size → q ≤ t.size → L t q = lineE (L t i) → L t i = s ++ L t q → d.length = i →
    Ev (fun k => pretty_spec.l0 k (D t) (I (d ++ s.map bp)) (q : Int)) z → Ev (fun k => pretty_spec.l1 k (D t) (I d) (i : Int)) z := by
  intro n
  induction n with
  | zero =>
    intro i q s d hn hi hq hlq hseg hd h
    have hie : i = t.size := by omega
    have hlen := seg_nil hi hseg hq
    have hs0 : s = [] := List.eq_nil_of_length_eq_zero (by omega)
    subst hs0
    rw [List.map_nil, List.append_nil] at h
    have hqe : q = t.size := by simp at hlen; omega
    obtain ⟨K, hK⟩ := h
    have h1 := hK (K + 1) (by omega)
    simp only [pretty_spec.l0] at h1
    rw [D_len, if_neg (by omega)] at h1
    refine .succ (.succ (.const fun k => ?_))
    simp only [pretty_spec.l1, pretty_spec.l0]
    rw [D_len, if_neg (by omega), hie, w1 (by omega), if_neg (by omega)]
    exact h1
  | succ n ih =>
    intro i q s d hn hi hq hlq hseg hd h
    have hlt : i < t.size := by omega
    have hL := L_cons hlt
    have hhv : hv t i = (t[i].toNat : Int) := by unfold hv; rw [dif_pos hlt]
    obtain ⟨c, hc⟩ : ∃ c, c = t[i] := ⟨_, rfl⟩
    rw [← hc] at hL hhv
    have hlen := seg_nil hi hseg hq
    by_cases h10 : c = 10
    · have : L t q = L t i := by rw [hlq, hL]; conv => lhs; unfold lineE; rw [if_pos h10]
      have hqi : q = i := L_inj hq hi this
      have hs0 : s = [] := List.eq_nil_of_length_eq_zero (by omega)
      subst hs0
      rw [List.map_nil, List.append_nil, hqi] at h
      obtain ⟨K, hK⟩ := h
      refine .succ ⟨K, fun k hk => ?_⟩
      have h1 := hK (k + 3) (by omega)
      simp only at h1
      rw [p_push_eq hs hL (by rw [h10]; decide) (by rw [h10]; decide) (by rw [h10]; decide) (by rw [h10]; decide) d (by omega) k] at h1
      simp only [pretty_spec.l1]
      rw [D_len, rd_D, if_pos (by omega), if_pos (by omega), hhv, if_pos (by rw [h10]; rfl), I_len, if_pos (by omega), w1 (by omega), show I d ++ [(10 : Int)] = I (d ++ [c]) by rw [h10]; exact I_snoc d 10]
      exact h1
    · have hlq2 : L t q = lineE (L t (i + 1)) := by rw [hlq, hL]; conv => lhs; unfold lineE; rw [if_neg h10]
      obtain ⟨s', rfl⟩ : ∃ s', s = c :: s' := by
        cases s with
        | nil =>
          exfalso
          have h2 : L t q = L t i := hseg.symm
          have h3 := congrArg List.length hlq2
          have h4 := lineE_le (L t (i + 1))
          rw [h2, L_len] at h3
          rw [L_len] at h4
          omega
        | cons x s' =>
          rw [hL] at hseg
          obtain ⟨e, _⟩ := List.cons.inj hseg
          exact ⟨s', by rw [e]⟩
      have hseg2 : L t (i + 1) = s' ++ L t q := by rw [hL] at hseg; exact (List.cons.inj hseg).2
      have hih := ih (i + 1) q s' (d ++ [bp c]) (by omega) (by omega) hq hlq2 hseg2 (by rw [List.length_append, List.length_singleton]; omega) (by rw [List.append_assoc]; exact h)
      have n10 : ¬ (c.toNat : Int) = 10 := fun e => h10 ((u8e (n := 10) (by decide)).1 e)
      refine .succ (hih.congr fun k => ?_)
      simp only [pretty_spec.l1]
      rw [D_len, rd_D, if_pos (by omega), if_pos (by omega), hhv, if_neg n10, I_len]
      by_cases h9 : c = 9
      · rw [if_pos (by rw [h9]; rfl), if_pos (by omega), w1 (by omega), I_snoc, h9]
        rfl
      · rw [if_neg (show ¬ (c.toNat : Int) = 9 from fun e => h9 ((u8e (n := 9) (by decide)).1 e))]
        by_cases h13 : c = 13
        · rw [if_pos (by rw [h13]; rfl), if_pos (by omega), w1 (by omega), I_snoc, h13]
          rfl
        · rw [if_neg (show ¬ (c.toNat : Int) = 13 from fun e => h13 ((u8e (n := 13) (by decide)).1 e)), if_pos (by omega), w1 (by omega)]
          have hb : bp c = 32 := by unfold bp; rw [if_neg h10, if_neg h9, if_neg h13]
          rw [hb, show I d ++ [(32 : Int)] = I (d ++ [32]) from I_snoc d 32]

theorem ne8' {c2 : UInt8} (h : c2 ≠ 47) : ((c2.toNat : Int) == 47) = false := by
  rw [beq_eq_false_iff_ne]
  exact fun e => h ((u8e (n := 47) (by decide)).1 e)

theorem p_block (hs : t.size ≤ 2147483647) (z : List Int) : ∀ (n i q : Nat) (s d : List UInt8), t.size - i = n → i ≤ t.size → q ≤ t.size → blockE (L t i) = some (L t q) → L t i = s ++ L t q → d.length = i →
    Ev (fun k => pretty_spec.l0 k (D t) (I (d ++ s.map bp)) (q : Int)) z → Ev (fun k => pretty_spec.l2 k (D t) (I d) (i : Int)) z := by
  intro n
  induction n with
  | zero =>
    intro i q s d hn hi hq hb
    rw [L_nil (by omega)] at hb
    cases hb
  | succ n ih =>
    intro i q s d hn hi hq hbk hseg hd h
    have hlt : i < t.size := by omega
    have hL := L_cons hlt
    obtain ⟨c, hc⟩ : ∃ c, c = t[i] := ⟨_, rfl⟩
    have hhv : hv t i = (c.toNat : Int) := by unfold hv; rw [dif_pos hlt, hc]
    rw [← hc] at hL
    have hl2 : ∃ c2 l2, L t (i + 1) = c2 :: l2 := by
      cases hx : L t (i + 1) with
      | nil => rw [hL, hx] at hbk; cases hbk
      | cons c2 l2 => exact ⟨c2, l2, rfl⟩
    obtain ⟨c2, l2, hL2⟩ := hl2
    obtain ⟨hlt2, hv2, hr2⟩ := L_hv hL2
    have hlen := seg_nil hi hseg hq
    have hwl : wrap64 ((t.size : Int) - 1) = (t.size : Int) - 1 := w64s (by omega) (by omega)
    rw [hL, hL2, blockE_cons] at hbk
    by_cases hend : c = 42 ∧ c2 = 47
    · rw [if_pos hend] at hbk
      have e1 := Option.some.inj hbk
      rw [hr2] at e1
      have hqe : i + 1 + 1 = q := L_inj (by omega) hq e1
      have hse : s = [42, 47] := by
        have h1 : L t i = [42, 47] ++ L t q := by rw [hL, hL2, hend.1, hend.2, hr2, e1]; rfl
        rw [h1] at hseg
        exact (List.append_cancel_right hseg).symm
      subst hse
      refine .succ (.succ (h.congr fun k => ?_))
      simp only [pretty_spec.l2, pretty_spec.j3]
      rw [D_len, rd_D, hwl, if_pos (by omega), if_pos (by omega), if_pos (by omega), hhv, if_pos (by rw [hend.1]; rfl), w1 (by omega), if_pos (by omega), if_pos (by omega), rd_D, hv2, hend.2]
      rw [show (((47 : UInt8).toNat : Int) == 47) = true from rfl, if_pos rfl, Option.bind_some, I_len, if_pos (by simp; omega), w1 (p := i + 1) (by omega), hqe, I_app]
      rfl
    · rw [if_neg hend] at hbk
      rw [← hL2] at hbk
      obtain ⟨s', rfl⟩ : ∃ s', s = c :: s' := by
        cases s with
        | nil =>
          exfalso
          have h2 : L t i = L t q := hseg
          have h4 := blockE_lt _ _ _ (Nat.le_refl _) hbk
          rw [← h2, L_len, L_len] at h4
          omega
        | cons x s' =>
          rw [hL] at hseg
          obtain ⟨e, _⟩ := List.cons.inj hseg
          exact ⟨s', by rw [e]⟩
      have hseg2 : L t (i + 1) = s' ++ L t q := by rw [hL] at hseg; exact (List.cons.inj hseg).2
      have hih := ih (i + 1) q s' (d ++ [bp c]) (by omega) (by omega) hq hbk hseg2 (by rw [List.length_append, List.length_singleton]; omega) (by rw [List.append_assoc]; exact h)
      have hj3 : Ev (fun k => pretty_spec.j3 k (D t) (I d) (i : Int) false) z := by
        refine .succ (hih.congr fun k => ?_)
        simp only [pretty_spec.j3]
        rw [if_neg (by decide), D_len, rd_D, if_pos (by omega), if_pos (by omega), hhv, I_len]
        by_cases h10 : c = 10
        · rw [if_pos (by rw [h10]; rfl), if_pos (by omega), w1 (by omega), I_snoc, h10]
          rfl
        · rw [if_neg (show ¬ (c.toNat : Int) = 10 from fun e => h10 ((u8e (n := 10) (by decide)).1 e))]
          by_cases h9 : c = 9
          · rw [if_pos (by rw [h9]; rfl), if_pos (by omega), w1 (by omega), I_snoc, h9]
            rfl
          · rw [if_neg (show ¬ (c.toNat : Int) = 9 from fun e => h9 ((u8e (n := 9) (by decide)).1 e))]
            by_cases h13 : c = 13
            · rw [if_pos (by rw [h13]; rfl), if_pos (by omega), w1 (by omega), I_snoc, h13]
              rfl
            · rw [if_neg (show ¬ (c.toNat : Int) = 13 from fun e => h13 ((u8e (n := 13) (by decide)).1 e)), if_pos (by omega), w1 (by omega)]
              have hb : bp c = 32 := by unfold bp; rw [if_neg h10, if_neg h9, if_neg h13]
              rw [hb, show I d ++ [(32 : Int)] = I (d ++ [32]) from I_snoc d 32]
      refine .succ (hj3.congr fun k => ?_)
      simp only [pretty_spec.l2]
      rw [D_len, rd_D, hwl, if_pos (by omega), if_pos (by omega), if_pos (by omega), hhv]
      by_cases h42 : c = 42
      · have h47 : c2 ≠ 47 := fun e => hend ⟨h42, e⟩
        have hb : ((c2.toNat : Int) == 47) = false := ne8' h47
        rw [if_pos (by rw [h42]; rfl), w1 (by omega), if_pos (by omega), if_pos (by omega), rd_D, hv2, hb]
      · rw [if_neg (show ¬ (c.toNat : Int) = 42 from fun e => h42 ((u8e (n := 42) (by decide)).1 e))]

theorem p_cmt (hs : t.size ≤ 2147483647) (z : List Int) {p q : Nat} {m c d : List UInt8} (hl : L t p = 47 :: m) (hq : q ≤ t.size) (hc : cmtF (47 :: m) = some (L t q)) (hseg : 47 :: m = c ++ L t q) (hd : d.length = p) :
    Ev (fun k => pretty_spec.l0 k (D t) (I (d ++ c.map bp)) (q : Int)) z → Ev (fun k => pretty_spec.l0 k (D t) (I d) (p : Int)) z := by
  intro h
  obtain ⟨hlt, hv1, hr⟩ := L_hv hl
  have hv1 : hv t p = 47 := hv1
  have hm : ∃ x m2, m = x :: m2 := by
    cases m with
    | nil => cases hc
    | cons x m2 => exact ⟨x, m2, rfl⟩
  obtain ⟨x, m2, rfl⟩ := hm
  obtain ⟨hlt2, hv2, hr2⟩ := L_hv hr.symm
  have hwl : wrap64 ((t.size : Int) - 1) = (t.size : Int) - 1 := w64s (by omega) (by omega)
  have hw2 : wrap64 ((p : Int) + 2) = ((p + 1 + 1 : Nat) : Int) := by rw [w64s (by omega) (by omega)]; omega
  have hlc : p + c.length = q := seg_nil (by omega) (by rw [hl]; exact hseg) hq
  have hcs : 2 ≤ c.length → ∃ s, c = 47 :: x :: s ∧ m2 = s ++ L t q := by
    intro h2
    cases c with
    | nil => simp at h2
    | cons a c =>
      cases c with
      | nil => simp at h2
      | cons b s =>
        obtain ⟨e1, e2⟩ := List.cons.inj hseg
        obtain ⟨e3, e4⟩ := List.cons.inj e2
        exact ⟨s, by rw [← e1, ← e3], e4⟩
  rw [cmtF_47] at hc
  by_cases h47 : x = 47
  · rw [if_pos h47] at hc
    have e1 := Option.some.inj hc
    have hle := lineE_le m2
    have hc2 : 2 ≤ c.length := by
      have h1 := congrArg List.length e1
      rw [L_len] at h1
      rw [show m2.length = t.size - (p + 1 + 1) by rw [hr2, L_len]] at hle
      omega
    obtain ⟨s, rfl, hms⟩ := hcs hc2
    have hl1 := p_line hs z _ (p + 1 + 1) q s (d ++ [32, 32]) rfl (by omega) hq (by rw [← hr2]; exact e1.symm) (by rw [← hr2]; exact hms) (by rw [List.length_append]; simp; omega) (by rw [List.append_assoc]; subst h47; exact h)
    refine .succ (hl1.congr fun k => ?_)
    simp only [pretty_spec.l0]
    rw [D_len, rd_D, if_pos (by omega), if_pos (by omega), if_pos hv1, hwl, if_pos (by omega), w1 (by omega), if_pos (by omega), if_pos (by omega), rd_D, hv2, if_pos (by rw [h47]; rfl), Option.bind_some, I_len, if_pos (by simp; omega), hw2, I_app]
    rfl
  · rw [if_neg h47] at hc
    by_cases h42 : x = 42
    · rw [if_pos h42] at hc
      have hlt3 := blockE_lt _ _ _ (Nat.le_refl _) hc
      have hc2 : 2 ≤ c.length := by
        rw [hr2, L_len, L_len] at hlt3
        omega
      obtain ⟨s, rfl, hms⟩ := hcs hc2
      have hl1 := p_block hs z _ (p + 1 + 1) q s (d ++ [32, 32]) rfl (by omega) hq (by rw [← hr2]; exact hc) (by rw [← hr2]; exact hms) (by rw [List.length_append]; simp; omega) (by rw [List.append_assoc]; subst h42; exact h)
      refine .succ (hl1.congr fun k => ?_)
      simp only [pretty_spec.l0]
      rw [D_len, rd_D, if_pos (by omega), if_pos (by omega), if_pos hv1, hwl, if_pos (by omega), w1 (by omega), if_pos (by omega), if_pos (by omega), rd_D, hv2, if_neg (show ¬ (x.toNat : Int) = 47 from fun e => h47 ((u8e (n := 47) (by decide)).1 e)), if_pos (by rw [h42]; rfl), Option.bind_some, I_len, if_pos (by simp; omega), hw2, I_app]
      rfl
    · rw [if_neg h42] at hc
      cases hc

/-- The row, the last comma blanked if a bracket closes next. -/
def AdjP (d l d' : List UInt8) : Prop := (Cl l ∧ d' = fix d) ∨ (¬ Cl l ∧ d' = d)
theorem adjP_no {d l : List UInt8} (h : ¬ Cl l) : AdjP d l d := .inr ⟨h, rfl⟩

theorem p_fwd (hs : t.size ≤ 2147483647) {l g : List UInt8} (h : Fw bp l g) : Clean g → ∀ (p : Nat) (d : List UInt8), l = L t p → p ≤ t.size → d.length = p → ∃ d', AdjP d l d' ∧ d'.length = p ∧ Ev (fun k => pretty_spec.l0 k (D t) (I d) (p : Int)) (I (d' ++ g)) := by
  induction h with
  | nil =>
    intro _ p d hl hp hd
    have hpe : p = t.size := by
      have := congrArg List.length hl
      rw [L_len] at this
      simp at this
      omega
    refine ⟨d, adjP_no cl_nil, hd, .succ (.const fun k => ?_)⟩
    simp only [pretty_spec.l0]
    rw [D_len, if_neg (by omega), List.append_nil]
  | cmt m c r f h1 h2 _ ih =>
    intro hcl p d hl hp hd
    obtain ⟨q, rfl, hq1, hq2⟩ := L_sfx hp ⟨c, by rw [← hl]; exact h2⟩
    have hclf : Clean f := clean_after hcl
    have hlc : p + c.length = q := seg_nil hp (by rw [← hl]; exact h2) hq2
    obtain ⟨d', hA, hdl, hE⟩ := ih hclf q (d ++ c.map bp) rfl hq2 (by rw [List.length_append, List.length_map]; omega)
    have hle : ∀ x ∈ c.map bp, x.toNat ≤ 32 := fun x hx => by
      obtain ⟨y, _, rfl⟩ := List.mem_map.1 hx
      exact blk_le (blk_bp y)
    have hmain := p_cmt hs _ hl.symm hq2 h1 h2 hd hE
    rcases hA with ⟨k1, k2⟩ | ⟨k1, k2⟩
    · rw [fix_app hle] at k2
      refine ⟨fix d, .inl ⟨(cl_cmt h1).2 k1, rfl⟩, fix_len _ _ hd, ?_⟩
      rw [k2, List.append_assoc] at hmain
      exact hmain
    · refine ⟨d, adjP_no fun k => k1 ((cl_cmt h1).1 k), hd, ?_⟩
      rw [k2, List.append_assoc] at hmain
      exact hmain
  | str u r f h1 _ ih =>
    intro hcl p d hl hp hd
    obtain ⟨hlt, hv1, hr⟩ := L_hv hl.symm
    have hv1 : hv t p = 34 := hv1
    have hb0 : bsr t (p + 1) = 0 := by rw [show bsr t (p + 1) = if hv t p = 92 then bsr t p + 1 else 0 from rfl, if_neg (by omega)]
    obtain ⟨u2, q, e1, e2, e3, e4⟩ := p_str hs p hv1 h1 (p + 1) (d ++ [34]) hr (by omega) (by rw [hb0]) (by rw [List.length_append, List.length_singleton]; omega)
    obtain rfl := List.append_cancel_right e1
    have hclf : Clean f := clean_str (str_swap h1 f) hcl
    have hlu : p + 1 + u.length = q := seg_nil (by omega) (by rw [← hr, e2]) e3.2
    obtain ⟨d', hA, hdl, hE⟩ := ih hclf q (d ++ [34] ++ u) e2 e3.2 (by rw [List.length_append, List.length_append, List.length_singleton]; omega)
    have hlast : ∃ a, [34] ++ u = a ++ [34] := str_last (str_swap h1 [])
    obtain ⟨a, ha⟩ := hlast
    have hd2 : d' = d ++ [34] ++ u := by
      rcases hA with ⟨_, k⟩ | ⟨_, k⟩
      · rw [k, List.append_assoc, ha, ← List.append_assoc, fix_snoc, if_neg (by decide), if_neg (by decide)]
      · exact k
    refine ⟨d, adjP_no (cl_not rfl (by decide) (by decide) (by decide)), hd, ?_⟩
    have h5 := e4 _ hE
    rw [hd2, List.append_assoc, List.append_assoc] at h5
    refine .succ (.succ (h5.congr fun k => ?_))
    simp only [pretty_spec.l0, pretty_spec.j4]
    rw [D_len, rd_D, if_pos (by omega), if_pos (by omega), if_neg (by omega), I_len, if_pos (by omega), if_pos (by omega), if_pos (by omega), Option.bind_some, if_pos hv1, w1 (by omega), hv1, show I d ++ [(34 : Int)] = I (d ++ [34]) from I_snoc d 34]
  | drop l f h1 _ ih =>
    intro hcl p d hl hp hd
    obtain ⟨hlt, _, hr⟩ := L_hv hl.symm
    have hclf : Clean f := by
      cases hcl with
      | oth _ _ _ _ h => exact h
    obtain ⟨d', hA, hdl, hE⟩ := ih hclf (p + 1) (d ++ [44]) hr (by omega) (by rw [List.length_append, List.length_singleton]; omega)
    have hd2 : d' = d ++ [32] := by
      rcases hA with ⟨_, k⟩ | ⟨k, _⟩
      · rw [k, fix_snoc, if_neg (by decide), if_pos rfl]
      · exact absurd h1 k
    refine ⟨d, adjP_no (cl_not rfl (by decide) (by decide) (by decide)), hd, ?_⟩
    rw [hd2, List.append_assoc] at hE
    exact p_push hs hl.symm (by decide) (by decide) (by decide) (by decide) d (by omega) _ hE
  | keep l f h1 _ ih =>
    intro hcl p d hl hp hd
    obtain ⟨hlt, _, hr⟩ := L_hv hl.symm
    have hclf : Clean f := by
      cases hcl with
      | oth _ _ _ _ h => exact h
    obtain ⟨d', hA, hdl, hE⟩ := ih hclf (p + 1) (d ++ [44]) hr (by omega) (by rw [List.length_append, List.length_singleton]; omega)
    have hd2 : d' = d ++ [44] := by
      rcases hA with ⟨k, _⟩ | ⟨_, k⟩
      · exact absurd k h1
      · exact k
    refine ⟨d, adjP_no (cl_not rfl (by decide) (by decide) (by decide)), hd, ?_⟩
    rw [hd2, List.append_assoc] at hE
    exact p_push hs hl.symm (by decide) (by decide) (by decide) (by decide) d (by omega) _ hE
  | oth c l f h47 h34 h44 _ ih =>
    intro hcl p d hl hp hd
    obtain ⟨hlt, _, hr⟩ := L_hv hl.symm
    obtain ⟨hclc, hclf⟩ : (blk c = true ∨ 32 < c.toNat) ∧ Clean f := by
      cases hcl with
      | str _ _ _ _ => exact absurd rfl h34
      | oth _ _ _ k h => exact ⟨k, h⟩
    by_cases hcc : c = 125 ∨ c = 93
    · have hC : Cl (c :: l) := by
        rcases hcc with e | e <;> subst e
        · exact .obj _
        · exact .arr _
      obtain ⟨d', hA, hdl, hE⟩ := ih hclf (p + 1) (fix d ++ [c]) hr (by omega) (by rw [List.length_append, List.length_singleton, fix_len _ _ hd])
      have hd2 : d' = fix d ++ [c] := by
        rcases hA with ⟨_, k⟩ | ⟨_, k⟩
        · rw [k, fix_snoc, if_neg (by rcases hcc with e | e <;> subst e <;> decide), if_neg h44]
        · exact k
      refine ⟨fix d, .inl ⟨hC, rfl⟩, fix_len _ _ hd, ?_⟩
      rw [hd2, List.append_assoc] at hE
      exact p_close hs hl.symm hcc d (by omega) _ hE
    · obtain ⟨d', hA, hdl, hE⟩ := ih hclf (p + 1) (d ++ [c]) hr (by omega) (by rw [List.length_append, List.length_singleton]; omega)
      have hp2 := p_push hs hl.symm h47 h34 (fun e => hcc (.inl e)) (fun e => hcc (.inr e)) d (by omega) _ hE
      by_cases hb : blk c = true
      · rcases hA with ⟨k1, k2⟩ | ⟨k1, k2⟩
        · refine ⟨fix d, .inl ⟨(cl_blank hb).2 k1, rfl⟩, fix_len _ _ hd, ?_⟩
          rw [k2, fix_snoc, if_pos (blk_le hb), List.append_assoc] at hp2
          exact hp2
        · refine ⟨d, adjP_no fun k => k1 ((cl_blank hb).1 k), hd, ?_⟩
          rw [k2, List.append_assoc] at hp2
          exact hp2
      · have hb : blk c = false := by simpa using hb
        have h32 : ¬ c.toNat ≤ 32 := by
          rcases hclc with e | e
          · rw [hb] at e; cases e
          · omega
        have hd2 : d' = d ++ [c] := by
          rcases hA with ⟨_, k⟩ | ⟨_, k⟩
          · rw [k, fix_snoc, if_neg h32, if_neg h44]
          · exact k
        refine ⟨d, adjP_no (cl_not hb h47 (fun e => hcc (.inl e)) (fun e => hcc (.inr e))), hd, ?_⟩
        rw [hd2, List.append_assoc] at hp2
        exact hp2
where
  clean_after : ∀ {c f : List UInt8}, Clean (c.map bp ++ f) → Clean f := by
    intro c
    induction c with
    | nil => intro f h; exact h
    | cons x c ih =>
      intro f h
      have hb := blk_bp x
      cases hx : (x :: c).map bp ++ f with
      | nil => cases hx
      | cons y l =>
        rw [hx] at h
        have e : y = bp x ∧ l = c.map bp ++ f := by
          have := List.cons.inj (hx.symm.trans rfl)
          exact this
        cases h with
        | str _ _ _ _ => rw [← e.1] at hb; cases hb
        | oth _ _ _ _ h => exact ih (by rw [← e.2]; exact h)
  clean_str : ∀ {u f : List UInt8}, StrIn (u ++ f) f → Clean (34 :: (u ++ f)) → Clean f := by
    intro u f hs h
    generalize hx : 34 :: (u ++ f) = x at h
    cases h with
    | nil => cases hx
    | str u' r h1 h2 =>
      have e := (List.cons.inj hx).2
      rw [e] at hs
      rw [str_det hs h1]
      exact h2
    | oth c l h1 _ _ => exact absurd (List.cons.inj hx).1.symm h1
  str_last : ∀ {u : List UInt8}, StrIn (u ++ []) [] → ∃ a, [34] ++ u = a ++ [34] := by
    have key : ∀ {l r : List UInt8}, StrIn l r → ∃ a, l = a ++ 34 :: r := by
      intro l r h
      induction h with
      | close r => exact ⟨[], rfl⟩
      | one c l r _ _ _ _ ih => obtain ⟨a, rfl⟩ := ih; exact ⟨c :: a, rfl⟩
      | esc c l r _ _ ih => obtain ⟨a, rfl⟩ := ih; exact ⟨92 :: c :: a, rfl⟩
      | uni a b c d l r _ _ _ _ _ ih => obtain ⟨x, rfl⟩ := ih; exact ⟨92 :: 117 :: a :: b :: c :: d :: x, rfl⟩
    intro u h
    obtain ⟨a, ha⟩ := key h
    rw [List.append_nil] at ha
    exact ⟨34 :: a, by rw [ha]; rfl⟩
end

/-- Spec of a text, told forwards. -/
theorem spec_fwd {t : ByteArray} (hs : t.size ≤ 2147483647) {g : List UInt8} (h : Fw bp t.data.toList g) (hc : Clean g) : Ev (fun k => pretty_Spec.f k (D t)) (I g) := by
  obtain ⟨d', hA, hdl, K, hE⟩ := p_fwd hs h hc 0 [] rfl (Nat.zero_le _) rfl
  have hd0 : d' = [] := List.eq_nil_of_length_eq_zero hdl
  subst hd0
  refine ⟨K, fun k hk => ?_⟩
  have e := hE k hk
  simp only at e
  simp only [pretty_Spec.f, pretty_spec.f]
  rw [if_pos (by simp)]
  have e2 : pretty_spec.l0 k (D t) ([] : List Int) 0 = some (I g) := e
  simp only [List.take_nil]
  rw [e2]
  rfl
end Go.Proofs.Ytdokakhhpcckaaa.Pure
