/- Uncommented's row of bytes is told forwards. No condition but sizes. -/
import Derived.Test.YtdokakhhpcckaaaPw1
namespace Go.Proofs.Ytdokakhhpcckaaa.Pure
set_option linter.unusedVariables false
open Go.RowKit Go.Proofs.Ytdokakhhpcckaaa

/-- The row, the last mark's comma blanked if a bracket closes next. -/
def AdjU (t : ByteArray) (out : List UInt8) (last : Int) (p : Nat) (out' : List UInt8) : Prop :=
  (Cl (L t p) ∧ ∃ (j : Nat) (hj : j < t.size), last = (j : Int) ∧ t[j] = 44 ∧ out' = out.set j 32) ∨ (¬ (Cl (L t p) ∧ ∃ (j : Nat) (hj : j < t.size), last = (j : Int) ∧ t[j] = 44) ∧ out' = out)
theorem AdjU.no_cl {t : ByteArray} {out : List UInt8} {last : Int} {p : Nat} (h : ¬ Cl (L t p)) : AdjU t out last p out := .inr ⟨fun k => h k.1, rfl⟩
theorem AdjU.same {t : ByteArray} {out out' : List UInt8} {p q : Nat} (hp : p < t.size) (hne : t[p] ≠ 44) (h : AdjU t out (p : Int) q out') : out' = out := by
  rcases h with ⟨_, j, hj, e1, e2, _⟩ | ⟨_, h⟩
  · have : p = j := by omega
    subst this
    exact absurd e2 hne
  · exact h

theorem take_of_drop {out l r : List UInt8} {p : Nat} (h : out.drop p = l ++ r) : out.take (p + l.length) = out.take p ++ l := by
  rw [List.take_add, h, List.take_left]
theorem drop_of_drop {out l r : List UInt8} {p : Nat} (h : out.drop p = l ++ r) : out.drop (p + l.length) = r := by
  rw [← List.drop_drop, h, List.drop_left]
theorem blank_take {out l r : List UInt8} {p : Nat} (h : out.drop p = l ++ r) (hp : p ≤ out.length) : (blankTo out p (p + l.length)).take (p + l.length) = out.take p ++ l.map bl ∧ (blankTo out p (p + l.length)).drop (p + l.length) = r := by
  unfold blankTo
  rw [Nat.add_sub_cancel_left, h, List.take_left]
  have hl : (out.take p ++ l.map bl).length = p + l.length := by rw [List.length_append, List.length_take, List.length_map]; omega
  constructor
  · rw [← hl, List.take_left]
  · rw [← hl, List.drop_left, hl]
    exact drop_of_drop h
theorem L_seg {t : ByteArray} {p q : Nat} (h : p ≤ q) (hq : q ≤ t.size) : ∃ c, L t p = c ++ L t q ∧ p + c.length = q := by
  refine ⟨(L t p).take (q - p), ?_, by rw [List.length_take, L_len]; omega⟩
  have : L t q = (L t p).drop (q - p) := by unfold L; rw [List.drop_drop]; congr 1; omega
  rw [this, List.take_append_drop]

theorem unc_fw {t : ByteArray} {out F : List UInt8} {last : Int} {p : Nat} (h : UncR t out last p F) : p ≤ t.size → out.length = t.size → out.drop p = L t p → last < (p : Int) →
    ∃ out' f, AdjU t out last p out' ∧ F = out'.take p ++ f ∧ Fw bl (L t p) f := by
  induction h with
  | fin out last p hp =>
    intro hle hlen hd hl
    refine ⟨out, [], .no_cl (by rw [L_nil hp]; exact cl_nil), ?_, by rw [L_nil hp]; exact .nil⟩
    rw [List.append_nil, List.take_of_length_le (by omega)]
  | cmt out last p q F hp h47 hc hq _ ih =>
    intro hle hlen hd hl
    obtain ⟨c, hseg, hcl⟩ := L_seg (Nat.le_of_lt hq.1) hq.2
    have hL : L t p = 47 :: L t (p + 1) := by rw [L_cons hp, h47]
    have hbt := blank_take (hd.trans hseg) (by omega)
    rw [hcl] at hbt
    obtain ⟨out', f, hA, hF, hfw⟩ := ih hq.2 ((blankTo_len out p q (by omega) (by omega)).trans hlen) hbt.2 (by omega)
    have hclq : Cl (L t p) ↔ Cl (L t q) := by rw [hL] at hc ⊢; exact cl_cmt hc
    have hFw : Fw bl (L t p) (c.map bl ++ f) := by rw [hL] at hc hseg ⊢; exact .cmt _ c _ f hc hseg hfw
    rcases hA with ⟨h1, j, hj, e1, e2, e3⟩ | ⟨h1, e3⟩
    · refine ⟨out.set j 32, _, .inl ⟨hclq.2 h1, j, hj, e1, e2, rfl⟩, ?_, hFw⟩
      rw [hF, e3, List.take_set, hbt.1, List.set_append_left _ _ (by rw [List.length_take]; omega), List.take_set, List.append_assoc]
    · refine ⟨out, _, .inr ⟨fun k => h1 ⟨hclq.1 k.1, k.2⟩, rfl⟩, ?_, hFw⟩
      rw [hF, e3, hbt.1, List.append_assoc]
  | str out last p q s F hL hstr hq _ ih =>
    intro hle hlen hd hl
    obtain ⟨u, hu, _⟩ := str_tail hstr
    have hd2 : out.drop p = (34 :: u) ++ L t q := by rw [hd, hL, hu]; rfl
    obtain ⟨hlt, hv1, _⟩ := L_hv hL
    have hqe : p + (34 :: u).length = q := by
      have h1 := congrArg List.length hd2
      rw [List.length_drop, List.length_append, L_len] at h1
      omega
    have ht := take_of_drop hd2
    have hdd := drop_of_drop hd2
    rw [hqe] at ht hdd
    obtain ⟨out', f, hA, hF, hfw⟩ := ih hq.2 hlen hdd (by omega)
    have h34 : t[p] = 34 := by
      have := L_cons hlt
      rw [hL] at this
      exact (List.cons.inj this).1.symm
    have e3 := hA.same hlt (by rw [h34]; decide)
    subst e3
    refine ⟨out', 34 :: (u ++ f), .no_cl (by rw [hL]; exact cl_not rfl (by decide) (by decide) (by decide)), ?_, ?_⟩
    · rw [hF, ht, List.append_assoc]
      rfl
    · rw [hL, hu]
      exact .str u _ f (by rw [← hu]; exact hstr) hfw
  | cls out last j p F hp hj hc hl0 h44 _ ih =>
    intro hle hlen hd hl
    have hd2 : out.drop p = [t[p]] ++ L t (p + 1) := by rw [hd, L_cons hp]; rfl
    have ht := take_of_drop hd2
    have hdd := drop_of_drop hd2
    obtain ⟨out', f, hA, hF, hfw⟩ := ih (by omega) (by rw [List.length_set]; exact hlen) (by rw [List.drop_set_of_lt (by omega)]; exact hdd) (by omega)
    have hne : t[p] ≠ 44 ∧ t[p] ≠ 47 ∧ t[p] ≠ 34 := by rcases hc with e | e <;> rw [e] <;> decide
    have e3 := hA.same hp hne.1
    subst e3
    refine ⟨out.set j 32, t[p] :: f, .inl ⟨?_, j, hj, hl0, h44, rfl⟩, ?_, ?_⟩
    · rw [L_cons hp]
      rcases hc with e | e <;> rw [e]
      · exact .obj _
      · exact .arr _
    · rw [hF, List.take_set, show p + 1 = p + [t[p]].length from rfl, ht, List.set_append_left _ _ (by rw [List.length_take]; omega), List.take_set, List.append_assoc]
      rfl
    · rw [L_cons hp]
      exact .oth _ _ _ hne.2.1 hne.2.2 hne.1 hfw
  | oth out last p F hp h47 h34 hno _ ih =>
    intro hle hlen hd hl
    have hd2 : out.drop p = [t[p]] ++ L t (p + 1) := by rw [hd, L_cons hp]; rfl
    have ht := take_of_drop hd2
    have hdd := drop_of_drop hd2
    obtain ⟨out', f, hA, hF, hfw⟩ := ih (by omega) hlen hdd (by split <;> omega)
    have hL := L_cons hp
    by_cases hb : blk t[p] = true
    · rw [if_pos hb] at hA
      have hcl : Cl (L t p) ↔ Cl (L t (p + 1)) := by rw [hL]; exact cl_blank hb
      have h44 : t[p] ≠ 44 := by rcases blk_four hb with e | e | e | e <;> rw [e] <;> decide
      have hFw : Fw bl (L t p) (t[p] :: f) := by rw [hL]; exact .oth _ _ _ h47 h34 h44 hfw
      rcases hA with ⟨h1, j, hj, e1, e2, e3⟩ | ⟨h1, e3⟩
      · refine ⟨out.set j 32, _, .inl ⟨hcl.2 h1, j, hj, e1, e2, rfl⟩, ?_, hFw⟩
        rw [hF, e3, List.take_set, show p + 1 = p + [t[p]].length from rfl, ht, List.set_append_left _ _ (by rw [List.length_take]; omega), List.take_set, List.append_assoc]
        rfl
      · refine ⟨out, _, .inr ⟨fun k => h1 ⟨hcl.1 k.1, k.2⟩, rfl⟩, ?_, hFw⟩
        rw [hF, e3, show p + 1 = p + [t[p]].length from rfl, ht, List.append_assoc]
        rfl
    · rw [if_neg hb] at hA
      have hb : blk t[p] = false := by simpa using hb
      by_cases h44 : t[p] = 44
      · have hncl : ¬ Cl (L t p) := by rw [hL, h44]; exact cl_not rfl (by decide) (by decide) (by decide)
        rcases hA with ⟨h1, j, hj, e1, e2, e3⟩ | ⟨h1, e3⟩
        · have hpj : p = j := by omega
          subst hpj
          refine ⟨out, 32 :: f, .no_cl hncl, ?_, by rw [hL, h44]; exact .drop _ _ h1 hfw⟩
          rw [hF, e3, List.take_set, show p + 1 = p + [t[p]].length from rfl, ht]
          have hlp : (out.take p).length = p := by rw [List.length_take]; omega
          rw [List.set_append_right _ _ (by rw [hlp]; exact Nat.le_refl _), hlp, Nat.sub_self, List.append_assoc]
          rfl
        · have hn1 : ¬ Cl (L t (p + 1)) := fun k => h1 ⟨k, p, hp, rfl, h44⟩
          refine ⟨out, 44 :: f, .no_cl hncl, ?_, by rw [hL, h44]; exact .keep _ _ hn1 hfw⟩
          rw [hF, e3, show p + 1 = p + [t[p]].length from rfl, ht, h44, List.append_assoc]
          rfl
      · have e3 := hA.same hp h44
        subst e3
        refine ⟨out', t[p] :: f, .inr ⟨fun k => ?_, rfl⟩, ?_, by rw [hL]; exact .oth _ _ _ h47 h34 h44 hfw⟩
        · apply hno
          refine ⟨?_, k.2⟩
          have hc := k.1
          rw [hL] at hc
          apply Classical.byContradiction
          intro hne
          exact cl_not hb h47 (fun e => hne (.inl e)) (fun e => hne (.inr e)) hc
        · rw [hF, show p + 1 = p + [t[p]].length from rfl, ht, List.append_assoc]
          rfl

theorem unc_all {t : ByteArray} {F : List UInt8} (h : UncR t t.data.toList (-1) 0 F) : Fw bl t.data.toList F := by
  obtain ⟨out', f, hA, hF, hfw⟩ := unc_fw h (Nat.zero_le _) Array.length_toList rfl (by decide)
  rw [List.take_zero, List.nil_append] at hF
  rw [hF]
  exact hfw
end Go.Proofs.Ytdokakhhpcckaaa.Pure
