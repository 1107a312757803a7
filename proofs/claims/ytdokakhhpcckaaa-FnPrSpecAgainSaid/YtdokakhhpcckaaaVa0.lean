/- Suffixes and first bytes of the grammar's values, and what the walks of gjson's validany, validarray and validobject ask of memory. No condition. -/
import Derived.Test.YtdokakhhpcckaaaGv2
import Derived.Test.YtdokakhhpcckaaaUncW
import Derived.ScopeJumps
namespace Go.Proofs.Ytdokakhhpcckaaa.Pure
set_option linter.unusedVariables false
open Go.RowKit Go.Proofs.Ytdokakhhpcckaaa Go.Proofs.Ytdokakhhpcckaaa.MFnPrSpecAgain Go.Proofs.YtdokakhhpcckaaaW.PrintWords Go.Proofs.YtdokakhhpcckaaaW.PrintLast

theorem wsL_split : ∀ l : List UInt8, ∃ s, l = s ++ wsL l
  | [] => ⟨[], rfl⟩
  | c :: l => by
    rw [wsL_cons]
    split
    · obtain ⟨s, h⟩ := wsL_split l
      exact ⟨c :: s, by rw [List.cons_append, ← h]⟩
    · exact ⟨[], rfl⟩
theorem dgs_split : ∀ l : List UInt8, ∃ s, l = s ++ dgs l
  | [] => ⟨[], rfl⟩
  | c :: l => by
    rw [dgs_cons]
    split
    · obtain ⟨s, h⟩ := dgs_split l
      exact ⟨c :: s, by rw [List.cons_append, ← h]⟩
    · exact ⟨[], rfl⟩
/-- r is what is left of l behind at least one byte. -/
def After (l r : List UInt8) : Prop := ∃ s, l = s ++ r ∧ 0 < s.length
theorem After.cons {l r : List UInt8} (c : UInt8) (h : ∃ s, l = s ++ r) : After (c :: l) r := by
  obtain ⟨s, rfl⟩ := h
  exact ⟨c :: s, rfl, by simp⟩
theorem After.any {l r : List UInt8} (h : After l r) : ∃ s, l = s ++ r := ⟨h.choose, h.choose_spec.1⟩
theorem sfx_trans {l m r : List UInt8} (h : ∃ s, l = s ++ m) (g : ∃ s, m = s ++ r) : ∃ s, l = s ++ r := by
  obtain ⟨a, rfl⟩ := h
  obtain ⟨b, rfl⟩ := g
  exact ⟨a ++ b, by rw [List.append_assoc]⟩
theorem dg1_sfx {l r : List UInt8} (h : dg1 l = some r) : ∃ s, l = s ++ r := by
  cases l with
  | nil => cases h
  | cons c l =>
    rw [dg1_cons] at h
    split at h
    · obtain rfl := Option.some.inj h
      obtain ⟨s, hs⟩ := dgs_split l
      exact ⟨c :: s, by rw [List.cons_append, ← hs]⟩
    · cases h
theorem sgnL_sfx (l : List UInt8) : ∃ s, l = s ++ sgnL l := by
  cases l with
  | nil => exact ⟨[], rfl⟩
  | cons c l =>
    rw [sgnL_cons]
    split
    · exact ⟨[c], rfl⟩
    · split
      · exact ⟨[c], rfl⟩
      · exact ⟨[], rfl⟩
theorem expL_sfx {l r : List UInt8} (h : expL l = some r) : ∃ s, l = s ++ r := by
  cases l with
  | nil => obtain rfl := Option.some.inj h; exact ⟨[], rfl⟩
  | cons c l =>
    rw [expL_cons] at h
    split at h
    · obtain ⟨s, hs⟩ := sfx_trans (sgnL_sfx l) (dg1_sfx h)
      exact ⟨c :: s, by rw [List.cons_append, ← hs]⟩
    · obtain rfl := Option.some.inj h
      exact ⟨[], rfl⟩
theorem fracL_sfx {l r : List UInt8} (h : fracL l = some r) : ∃ s, l = s ++ r := by
  cases l with
  | nil => obtain rfl := Option.some.inj h; exact ⟨[], rfl⟩
  | cons c l =>
    rw [fracL_cons] at h
    split at h
    · obtain ⟨m, h1, h2⟩ := Option.bind_eq_some_iff.1 h
      obtain ⟨s, hs⟩ := sfx_trans (dg1_sfx h1) (expL_sfx h2)
      exact ⟨c :: s, by rw [List.cons_append, ← hs]⟩
    · exact expL_sfx h
theorem intL_sfx {l r : List UInt8} (h : intL l = some r) : ∃ s, l = s ++ r := by
  cases l with
  | nil => cases h
  | cons c l =>
    rw [intL_cons] at h
    split at h
    · obtain ⟨s, hs⟩ := fracL_sfx h
      exact ⟨c :: s, by rw [List.cons_append, ← hs]⟩
    · obtain ⟨m, h1, h2⟩ := Option.bind_eq_some_iff.1 h
      exact sfx_trans (dg1_sfx h1) (fracL_sfx h2)
theorem numL_after {l r : List UInt8} (h : numL l = some r) : After l r := by
  have hlt := numL_lt h
  have : ∃ s, l = s ++ r := by
    cases l with
    | nil => cases h
    | cons c l =>
      rw [numL_cons] at h
      split at h
      · obtain ⟨s, hs⟩ := intL_sfx h
        exact ⟨c :: s, by rw [List.cons_append, ← hs]⟩
      · exact intL_sfx h
  obtain ⟨s, hs⟩ := this
  refine ⟨s, hs, ?_⟩
  have := congrArg List.length hs
  rw [List.length_append] at this
  omega

mutual
theorem jv_after {n : Nat} : ∀ {l r : List UInt8} {T : JT}, JV n l r T → After l r
  | _, _, _, .str l r h => .cons _ h.split
  | _, _, _, .num c l r _ h => numL_after h
  | _, _, _, .nul r => ⟨[110, 117, 108, 108], rfl, by simp⟩
  | _, _, _, .fls r => ⟨[102, 97, 108, 115, 101], rfl, by simp⟩
  | _, _, _, .tru r => ⟨[116, 114, 117, 101], rfl, by simp⟩
  | _, _, _, .arr0 l r h => .cons _ (sfx_trans (wsL_split l) ⟨[93], by rw [h]; rfl⟩)
  | _, _, _, .arr l r ks h => .cons _ (sfx_trans (wsL_split l) (je_after h).any)
  | _, _, _, .obj0 l r h => .cons _ (sfx_trans (wsL_split l) ⟨[125], by rw [h]; rfl⟩)
  | _, _, _, .obj l r nms ks h => .cons _ (sfx_trans (wsL_split l) (jm_after h).any)
theorem je_after {n : Nat} : ∀ {l r : List UInt8} {Ts : List JT}, JEs n l r Ts → After l r
  | _, _, _, .last l m r T h1 h2 => by
    obtain ⟨s, rfl, hs⟩ := jv_after h1
    obtain ⟨u, hu⟩ := sfx_trans (wsL_split m) ⟨[93], by rw [h2]; rfl⟩
    exact ⟨s ++ u, by rw [List.append_assoc, ← hu], by rw [List.length_append]; omega⟩
  | _, _, _, .more l m m' r T Ts h1 h2 h3 => by
    obtain ⟨s, rfl, hs⟩ := jv_after h1
    obtain ⟨u, hu⟩ := sfx_trans (sfx_trans (wsL_split m) ⟨[44], by rw [h2]; rfl⟩) (sfx_trans (wsL_split m') (je_after h3).any)
    exact ⟨s ++ u, by rw [List.append_assoc, ← hu], by rw [List.length_append]; omega⟩
theorem jm_after {n : Nat} : ∀ {l r : List UInt8} {nms : List (Nat × Nat)} {Ts : List JT}, JMs n l r nms Ts → After l r
  | _, _, _, _, .last s c v m r T h1 h2 h3 h4 => by
    refine .cons _ (sfx_trans (h1.split) (sfx_trans (wsL_split c) (sfx_trans ⟨[58], by rw [h2]; rfl⟩ (sfx_trans (wsL_split v) (sfx_trans (jv_after h3).any (sfx_trans (wsL_split m) ⟨[125], by rw [h4]; rfl⟩))))))
  | _, _, _, _, .more s c v m m' r T nms Ts h1 h2 h3 h4 h5 => by
    refine .cons _ (sfx_trans (h1.split) (sfx_trans (wsL_split c) (sfx_trans ⟨[58], by rw [h2]; rfl⟩ (sfx_trans (wsL_split v) (sfx_trans (jv_after h3).any (sfx_trans (wsL_split m) (sfx_trans ⟨[44], by rw [h4]; rfl⟩ (sfx_trans (wsL_split m') (jm_after h5).any))))))))
end

theorem L_app {t : ByteArray} {p : Nat} {s m : List UInt8} (hp : p ≤ t.size) (h : L t p = s ++ m) : m = L t (p + s.length) ∧ p + s.length ≤ t.size := by
  have hl := congrArg List.length h
  rw [L_len, List.length_append] at hl
  refine ⟨?_, by omega⟩
  have : L t (p + s.length) = (L t p).drop s.length := by unfold L; rw [List.drop_drop]
  rw [this, h, List.drop_left]
theorem L_sfx {t : ByteArray} {p : Nat} {m : List UInt8} (hp : p ≤ t.size) (h : ∃ s, L t p = s ++ m) : ∃ q, m = L t q ∧ p ≤ q ∧ q ≤ t.size := by
  obtain ⟨s, hs⟩ := h
  obtain ⟨h1, h2⟩ := L_app hp hs
  exact ⟨_, h1, by omega, h2⟩
theorem L_after {t : ByteArray} {p : Nat} {m : List UInt8} (hp : p ≤ t.size) (h : After (L t p) m) : ∃ q, m = L t q ∧ p < q ∧ q ≤ t.size := by
  obtain ⟨s, hs, hl⟩ := h
  obtain ⟨h1, h2⟩ := L_app hp hs
  exact ⟨_, h1, by omega, h2⟩
theorem ws_at {t : ByteArray} {p : Nat} (hp : p ≤ t.size) : ∃ q, wsL (L t p) = L t q ∧ p ≤ q ∧ q ≤ t.size := L_sfx hp (wsL_split _)

/-- The text's bytes at block B. -/
def Rd (t : ByteArray) (B : Nat) (W : World) : Prop := ∀ j (h : j < t.size), W.cell? ⟨B, j, none⟩ = some (.int .u8 (t[j].toNat : Int))
theorem Rd.drawn {t : ByteArray} {B : Nat} {W W' : World} (h : Rd t B W) (hd : Drawn0 W W') : Rd t B W' := by
  obtain ⟨k, rfl⟩ := hd.out
  exact h
theorem Rd.C {t : ByteArray} {B : Nat} {W : World} (hs : t.size ≤ 2147483647) (h : Rd t B W) : Kd.C (Kd.int .u8) W (some ⟨B, 0, none⟩) (D t).length (D t) := by
  refine ⟨rfl, by rw [D_len]; omega, fun _ => ⟨⟨B, 0, none⟩, rfl, fun j x hj => ⟨[.int .u8 x], rfl, rfl, fun i u hi => ?_⟩⟩⟩
  have hjl : j < t.size := by
    rw [← D_len]
    exact (List.getElem?_eq_some_iff.1 hj).1
  have hx : x = (t[j].toNat : Int) := by
    unfold D at hj
    rw [List.getElem?_map] at hj
    have hl : j < t.data.toList.length := by rw [Array.length_toList]; exact hjl
    rw [List.getElem?_eq_getElem hl] at hj
    exact (Option.some.inj hj).symm
  have hi0 : i = 0 := by
    have := (List.getElem?_eq_some_iff.1 hi).1
    simpa using this
  subst hi0
  obtain rfl := Option.some.inj hi
  have hadd : (⟨B, 0, none⟩ : Addr).add (j * 1 + 0) = ⟨B, j, none⟩ := by unfold Addr.add; split <;> simp_all
  rw [show (Kd.int .u8).sz = 1 from rfl, hadd, hx]
  exact h j hjl
theorem Rd.lit {t : ByteArray} {B i : Nat} {W : World} (h : Rd t B W) {c : UInt8} {l : List UInt8} (hl : L t i = c :: l) : W.cell? ⟨B, i, none⟩ = some (.int .u8 (c.toNat : Int)) := by
  obtain ⟨hlt, _, _⟩ := L_hv hl
  rw [L_cons hlt] at hl
  rw [h i hlt, (List.cons.inj hl).1]
theorem blk_four {c : UInt8} (h : blk c = true) : c = 32 ∨ c = 9 ∨ c = 10 ∨ c = 13 := by
  unfold blk at h
  simp only [Bool.or_eq_true, beq_iff_eq] at h
  rcases h with ((h | h) | h) | h
  · exact .inl h
  · exact .inr (.inl h)
  · exact .inr (.inr (.inl h))
  · exact .inr (.inr (.inr h))
theorem dgt_ten {c : UInt8} (h : dgt c = true) : c = 48 ∨ c = 49 ∨ c = 50 ∨ c = 51 ∨ c = 52 ∨ c = 53 ∨ c = 54 ∨ c = 55 ∨ c = 56 ∨ c = 57 := by
  unfold dgt at h
  have h := of_decide_eq_true h
  have key : ∀ n : Nat, n < 256 → c.toNat = n → c = UInt8.ofNat n := fun n hn e => (u8e hn).1 (by omega)
  rcases (show c.toNat = 48 ∨ c.toNat = 49 ∨ c.toNat = 50 ∨ c.toNat = 51 ∨ c.toNat = 52 ∨ c.toNat = 53 ∨ c.toNat = 54 ∨ c.toNat = 55 ∨ c.toNat = 56 ∨ c.toNat = 57 by omega) with e | e | e | e | e | e | e | e | e | e
  · exact .inl (key 48 (by decide) e)
  · exact .inr (.inl (key 49 (by decide) e))
  · exact .inr (.inr (.inl (key 50 (by decide) e)))
  · exact .inr (.inr (.inr (.inl (key 51 (by decide) e))))
  · exact .inr (.inr (.inr (.inr (.inl (key 52 (by decide) e)))))
  · exact .inr (.inr (.inr (.inr (.inr (.inl (key 53 (by decide) e))))))
  · exact .inr (.inr (.inr (.inr (.inr (.inr (.inl (key 54 (by decide) e)))))))
  · exact .inr (.inr (.inr (.inr (.inr (.inr (.inr (.inl (key 55 (by decide) e))))))))
  · exact .inr (.inr (.inr (.inr (.inr (.inr (.inr (.inr (.inl (key 56 (by decide) e)))))))))
  · exact .inr (.inr (.inr (.inr (.inr (.inr (.inr (.inr (.inr (key 57 (by decide) e)))))))))
end Go.Proofs.Ytdokakhhpcckaaa.Pure
