/- The round of json-patch's mergeDocs: what it keeps. No condition. -/
import Derived.Test.YtdjogkfgegopfaaDoorHc
import Derived.Test.YtdjogkfgegopfaaDoorPa
import Derived.Test.YtdjogkfgegopfaaDoorMFnPaMergeAgain7
namespace Go.Proofs.YtdjogkfgegopfaaDoor
open Go.RowKit Go.Maps Go.Proofs.YtdjogkfgegopfaaDoor.MFnPaMergeAgain Go.Proofs.YtdjogkfgegopfaaDoor.Pure Go.Proofs.YtdjogkfgegopfaaDoorW.PrintWords Go.Proofs.YtdjogkfgegopfaaDoorW.PrintLast
set_option linter.unusedVariables false
set_option linter.unusedSimpArgs false

mutual
theorem tidy_mono {B C : Nat} (h : B ≤ C) : ∀ (t : S25), tidy B t → tidy C t
  | ⟨k, t, ks, vs⟩ => fun q => by
    simp only [tidy] at q ⊢
    obtain ⟨q1, q2, q3, q4, q5, q6⟩ := q
    exact ⟨q1, by omega, by omega, by omega, fun x hx => by have := q5 x hx; omega, tidyL_mono h vs q6⟩
theorem tidyL_mono {B C : Nat} (h : B ≤ C) : ∀ (l : List S25), tidyL B l → tidyL C l
  | [], _ => trivial
  | v :: r, q => by
    simp only [tidyL] at q ⊢
    exact ⟨tidy_mono h v q.1, tidyL_mono h r q.2⟩
end
mutual
theorem tidy_lim {B : Nat} : ∀ (t : S25), tidy B t → lim B t
  | ⟨k, t, ks, vs⟩ => fun q => by
    simp only [tidy, lim] at q ⊢
    obtain ⟨q1, q2, q3, q4, q5, q6⟩ := q
    exact ⟨q3, q4, tidyL_lim vs q6⟩
theorem tidyL_lim {B : Nat} : ∀ (l : List S25), tidyL B l → limL B l
  | [], _ => trivial
  | v :: r, q => by
    simp only [tidyL, limL] at q ⊢
    exact ⟨tidy_lim v q.1, tidyL_lim r q.2⟩
end
theorem lim_mono {B C : Nat} {t : S25} (h : B ≤ C) (q : tidy B t) : lim C t := tidy_lim t (tidy_mono h t q)

mutual
theorem tidy_prune {B : Nat} : ∀ (t : S25), tidy B t → tidy B (prune t)
  | ⟨k, t, ks, vs⟩ => fun q => by
    have q0 := q
    simp only [tidy] at q
    obtain ⟨q1, q2, q3, q4, q5, q6⟩ := q
    by_cases h6 : k = 6
    · subst h6
      rcases q1 with ⟨q, _⟩ | ⟨q, _⟩ | ⟨q, _⟩ | ⟨-, rfl, q8, q9⟩
      · cases q
      · obtain ⟨bs, hb⟩ := Option.isSome_iff_exists.1 q
        rcases leafB_kind hb with h | h | h | h <;> cases h
      · cases q
      · unfold prune
        rw [if_pos rfl]
        obtain ⟨p1, p2, p3, p4⟩ := pruneM_tidy (B := B) ks vs q9 q6
        simp only [tidy]
        exact ⟨.inr (.inr (.inr ⟨trivial, trivial, p1.nodup q8, p2⟩)), q2, Nat.le_trans p1.length_le q3, by rw [← p2]; exact Nat.le_trans p1.length_le q3, fun x hx => q5 x (p1.subset hx), p4⟩
    · by_cases h5 : k = 5
      · subst h5
        unfold prune
        rw [if_neg (by decide), if_pos rfl]
        rcases q1 with ⟨q, _⟩ | ⟨q, _⟩ | ⟨-, rfl, rfl⟩ | ⟨q, _⟩
        · cases q
        · obtain ⟨bs, hb⟩ := Option.isSome_iff_exists.1 q
          rcases leafB_kind hb with h | h | h | h <;> cases h
        · obtain ⟨p1, p2⟩ := pruneL_tidy (B := B) vs q6
          simp only [tidy]
          exact ⟨.inr (.inr (.inl ⟨trivial, trivial, trivial⟩)), q2, q3, by rw [p1]; exact q4, q5, p2⟩
        · cases q
      · rw [prune_leaf h6 h5]
        exact q0
theorem pruneL_tidy {B : Nat} : ∀ (l : List S25), tidyL B l → (pruneL l).length = l.length ∧ tidyL B (pruneL l)
  | [], _ => ⟨rfl, trivial⟩
  | v :: r, q => by
    simp only [tidyL] at q
    obtain ⟨p1, p2⟩ := pruneL_tidy r q.2
    simp only [pruneL, tidyL, List.length_cons]
    exact ⟨by rw [p1], tidy_prune v q.1, p2⟩
theorem pruneM_tidy {B : Nat} : ∀ (ks : List ByteArray) (vs : List S25), ks.length = vs.length → tidyL B vs → (pruneM ks vs).1.Sublist ks ∧ (pruneM ks vs).1.length = (pruneM ks vs).2.length ∧ True ∧ tidyL B (pruneM ks vs).2
  | [], [], _, _ => ⟨List.Sublist.refl _, rfl, trivial, trivial⟩
  | [], _ :: _, h, _ => by simp at h
  | _ :: _, [], h, _ => by simp at h
  | a :: ks, v :: vs, h, q => by
    simp only [tidyL] at q
    obtain ⟨p1, p2, -, p3⟩ := pruneM_tidy ks vs (by simpa using h) q.2
    simp only [pruneM]
    by_cases h0 : v.f0 = 0
    · rw [if_pos h0]
      exact ⟨p1.trans (List.sublist_cons_self a ks), p2, trivial, p3⟩
    · rw [if_neg h0]
      simp only [tidyL, List.length_cons]
      exact ⟨p1.cons_cons a, by rw [p2], trivial, tidy_prune v q.1, p3⟩
end

/-- Whose a block is, while one object is merged into another. -/
inductive Own
  | d | dk (k : ByteArray) | p | pk (k : ByteArray) | x

/-- What stands at a name of the patch, after its round. -/
def Done (kd : List ByteArray) (td tp : ByteArray → S25) (kd' : List ByteArray) (td' : ByteArray → S25) (k : ByteArray) : Prop :=
  ((tp k).f0 = 0 → k ∉ kd') ∧ ((tp k).f0 ≠ 0 → k ∈ kd' ∧ ((k ∈ kd → (td k).f0 = 0) → td' k = prune (tp k)) ∧ (k ∈ kd → (td k).f0 ≠ 0 → MergeTo (td k) (tp k) (td' k)))

structure MInv (B : Nat) (w : World) (d m mp r L : Nat) (kd kp : List ByteArray) (fp : ByteArray → Value) (td tp : ByteArray → S25) (c0 : Nat → Own) (todo : ByteArray → Bool) (kd' : List ByteArray) (fd' : ByteArray → Value) (td' : ByteArray → S25) (c : Nat → Own) (wr : World) : Prop where
  only : Only (fun i => c0 i ≠ .x) w wr
  low : ∀ i, c i ≠ .x → B ≤ i
  hi : ∀ i, wr.heap.size ≤ i → c i = .x
  keepx : ∀ i, i < w.heap.size → c0 i = .x → c i = .x
  rb : w.heap.size ≤ r ∧ r < wr.heap.size ∧ c r = .x
  doc : DocAt wr (fun i => c i = .d) d m kd' fd'
  rng : ∃ n cnt, RangeIs wr mp r n (pick kp fp) todo cnt ∧ wr.rangeLeft mp r = cnt
  mpc : c mp = .p
  dks : ∀ k, k ∈ kd' → LN false wr (fd' k) (td' k) (fun i => c i = .dk k)
  pks : ∀ k, k ∈ kp → todo k = true → LN false wr (fp k) (tp k) (fun i => c i = .pk k)
  sub : ∀ k, k ∈ kd' → k ∈ kd ∨ k ∈ kp
  rest : ∀ k, (k ∉ kp ∨ todo k = true) → (k ∈ kd' ↔ k ∈ kd) ∧ td' k = td k
  done : ∀ k, k ∈ kp → todo k = false → Done kd td tp kd' td' k
  tdy : ∀ k, k ∈ kd' → tidy L (td' k)

theorem range_move {w w1 : World} {m r n cnt : Nat} {f : ByteArray → Option Value} {todo : ByteArray → Bool} {O : Nat → Prop} (h : RangeIs w m r n f todo cnt) (ho : Only O w w1) (hm : ¬ O m) (hr : ¬ O r) : RangeIs w1 m r n f todo cnt :=
  h.move (ho.block m h.owns.lt hm) (ho.block r h.lt hr)

theorem delK_out {ks : List ByteArray} {key : ByteArray} (h : key ∉ ks) : delK ks key = ks := by
  unfold delK
  apply List.filter_eq_self.2
  intro x hx
  have : x ≠ key := fun q => h (q ▸ hx)
  simp [this]

section
variable {B : Nat} {w wr wn w2 w3 : World} {d m mp r L n cnt1 : Nat} {kd kp : List ByteArray} {fp : ByteArray → Value} {td tp : ByteArray → S25} {c0 : Nat → Own} {todo : ByteArray → Bool} {kd' : List ByteArray} {fd' : ByteArray → Value} {td' : ByteArray → S25} {c : Nat → Own} {key : ByteArray}

/-- The range's step by itself: it writes its own block. -/
theorem MInv.stepped (h : MInv B w d m mp r L kd kp fp td tp c0 todo kd' fd' td' c wr) (hg : wr.grownBy wn (some r)) :
    Only (fun i => i = r) wr wn ∧ Only (fun i => c0 i ≠ .x) w wn ∧ DocAt wn (fun i => c i = .d) d m kd' fd' ∧ (∀ k, k ∈ kd' → LN false wn (fd' k) (td' k) (fun i => c i = .dk k)) ∧ (∀ k, k ∈ kp → todo k = true → LN false wn (fp k) (tp k) (fun i => c i = .pk k)) := by
  have hon : Only (fun i => i = r) wr wn := Only.of_grown hg (fun i hi => by cases hi; rfl)
  obtain ⟨r1, r2, r3⟩ := h.rb
  have hne : ∀ i o, c i = o → o ≠ .x → i ≠ r := fun i o h1 h2 h3 => by subst h3; rw [r3] at h1; exact h2 h1.symm
  refine ⟨hon, h.only.trans hon (fun _ _ q => q) (fun i hi q => by omega), h.doc.step hon (fun i _ hs => hne i _ hs (by simp)) (fun _ _ q => q), fun k hk => (h.dks k hk).step hon (fun i _ hs => hne i _ hs (by simp)) (fun _ _ q => q), fun k hk ht => (h.pks k hk ht).step hon (fun i _ hs => hne i _ hs (by simp)) (fun _ _ q => q)⟩

/-- A null in the patch: the name is taken out. -/
theorem MInv.drop (h : MInv B w d m mp r L kd kp fp td tp c0 todo kd' fd' td' c wr) (hk : key ∈ kp) (ht : todo key = true) (h0 : (tp key).f0 = 0)
    (hrn : RangeIs wn mp r n (pick kp fp) (fun z => todo z && decide (z ≠ key)) cnt1) (hg : wr.grownBy wn (some r)) (hsz : wn.heap.size = wr.heap.size)
    (hd : DocAt w2 (fun i => c i = .d) d m (delK kd' key) fd') (ho : Only (fun i => c i = .d) wn w2) :
    MInv B w d m mp r L kd kp fp td tp c0 (fun z => todo z && decide (z ≠ key)) (delK kd' key) fd' td' c w2 ∧ w2.rangeLeft mp r = cnt1 := by
  obtain ⟨hon, hall, hdn, hkd, hkp⟩ := h.stepped hg
  obtain ⟨r1, r2, r3⟩ := h.rb
  have s2 := ho.size
  have hR := range_move hrn ho (by rw [h.mpc]; simp) (by rw [r3]; simp)
  refine ⟨⟨?_, h.low, fun i q => h.hi i (by omega), h.keepx, ⟨r1, by omega, r3⟩, hd, ⟨n, cnt1, hR, hR.left_eq⟩, h.mpc, fun k hk2 => ?_, fun k hk2 ht2 => ?_, fun k hk2 => h.sub k (delK_mem.1 hk2).1, fun k hk2 => ?_, fun k hk2 ht2 => ?_, fun k hk2 => h.tdy k (delK_mem.1 hk2).1⟩, hR.left_eq⟩
  · refine hall.trans ho (fun _ _ q => q) (fun i hi q => fun e => ?_)
    have := h.keepx i hi e
    rw [this] at q
    cases q
  · exact (hkd k (delK_mem.1 hk2).1).step ho (fun i _ hs q => by rw [hs] at q; cases q) (fun _ _ q => q)
  · simp only [Bool.and_eq_true, decide_eq_true_eq] at ht2
    exact (hkp k hk2 ht2.1).step ho (fun i _ hs q => by rw [hs] at q; cases q) (fun _ _ q => q)
  · have hne : k ≠ key := by
      rintro rfl
      rcases hk2 with q | q
      · exact q hk
      · simp at q
    have := h.rest k (hk2.imp id (fun q => by simp only [Bool.and_eq_true] at q; exact q.1))
    exact ⟨by rw [delK_mem, ← this.1]; exact ⟨fun q => q.1, fun q => ⟨q, hne⟩⟩, this.2⟩
  · by_cases e : k = key
    · subst e
      exact ⟨fun _ q => (delK_mem.1 q).2 rfl, fun q => absurd h0 q⟩
    · have ht3 : todo k = false := by simpa [e] using ht2
      obtain ⟨q1, q2⟩ := h.done k hk2 ht3
      exact ⟨fun a b => q1 a (delK_mem.1 b).1, fun a => ⟨delK_mem.2 ⟨(q2 a).1, e⟩, (q2 a).2⟩⟩

open Classical in
/-- Another value: it is set, as the tree T. -/
theorem MInv.put {v : Value} {T : S25} (h : MInv B w d m mp r L kd kp fp td tp c0 todo kd' fd' td' c wr) (hB : B ≤ w.heap.size) (hk : key ∈ kp) (ht : todo key = true) (h0 : (tp key).f0 ≠ 0)
    (hrn : RangeIs wn mp r n (pick kp fp) (fun z => todo z && decide (z ≠ key)) cnt1) (hg : wr.grownBy wn (some r)) (hsz : wn.heap.size = wr.heap.size)
    (ho : Only (fun i => c i = .dk key ∨ c i = .pk key) wn w2) (hl : LN false w2 v T (fun i => (c i = .dk key ∨ c i = .pk key) ∨ New wn i))
    (hd : DocAt w3 (fun i => c i = .d ∨ w2.heap.size ≤ i) d m (setK kd' key) (setF fd' key v)) (ho3 : Only (fun i => c i = .d) w2 w3) (hT : tidy L T)
    (hD1 : (key ∈ kd → (td key).f0 = 0) → T = prune (tp key)) (hD2 : key ∈ kd → (td key).f0 ≠ 0 → MergeTo (td key) (tp key) T) :
    ∃ td2 c2, MInv B w d m mp r L kd kp fp td tp c0 (fun z => todo z && decide (z ≠ key)) (setK kd' key) (setF fd' key v) td2 c2 w3 ∧ w3.rangeLeft mp r = cnt1 := by
  obtain ⟨hon, hall, hdn, hkd, hkp⟩ := h.stepped hg
  obtain ⟨r1, r2, r3⟩ := h.rb
  have s0 := h.only.size
  have s2 := ho.size
  have s3 := ho3.size
  have hR2 := range_move hrn ho (by rw [h.mpc]; simp) (by rw [r3]; simp)
  have hR := range_move hR2 ho3 (by rw [h.mpc]; simp) (by rw [r3]; simp)
  have hmp : mp < wn.heap.size := hrn.owns.lt
  obtain ⟨c2, hA, hBB, hC, hD⟩ : ∃ c2 : Nat → Own, (∀ i, i < wn.heap.size → c i ≠ .dk key → c i ≠ .pk key → c2 i = c i) ∧ (∀ i, i < w2.heap.size → ((c i = .dk key ∨ c i = .pk key) ∨ New wn i) → c2 i = .dk key) ∧ (∀ i, w2.heap.size ≤ i → i < w3.heap.size → c2 i = .d) ∧ ∀ i, w3.heap.size ≤ i → c2 i = .x := by
    refine ⟨fun i => if w3.heap.size ≤ i then .x else if w2.heap.size ≤ i then .d else if (c i = .dk key ∨ c i = .pk key) ∨ wn.heap.size ≤ i then .dk key else c i, fun i hi h1 h2 => ?_, fun i hi q => ?_, fun i h1 h2 => ?_, fun i h1 => if_pos h1⟩
    · have hno : ¬ ((c i = .dk key ∨ c i = .pk key) ∨ wn.heap.size ≤ i) := by
        rintro ((q | q) | q)
        · exact h1 q
        · exact h2 q
        · omega
      simp only [if_neg (show ¬ w3.heap.size ≤ i by omega), if_neg (show ¬ w2.heap.size ≤ i by omega), if_neg hno]
    · have q' : (c i = .dk key ∨ c i = .pk key) ∨ wn.heap.size ≤ i := q
      simp only [if_neg (show ¬ w3.heap.size ≤ i by omega), if_neg (show ¬ w2.heap.size ≤ i by omega), if_pos q']
    · simp only [if_neg (show ¬ w3.heap.size ≤ i by omega), if_pos h1]
  have hx : ∀ i, i < wn.heap.size → c i = .x → c2 i = .x := fun i hi q => by rw [hA i hi (by rw [q]; simp) (by rw [q]; simp), q]
  refine ⟨fun k => if k = key then T else td' k, c2, ⟨?_, fun i hi => ?_, hD, fun i hi e => hx i (by omega) (h.keepx i hi e), ⟨r1, by omega, hx r (by omega) r3⟩, ?_, ⟨n, cnt1, hR, hR.left_eq⟩, ?_, fun k hk2 => ?_, fun k hk2 ht2 => ?_, fun k hk2 => ?_, fun k hk2 => ?_, fun k hk2 ht2 => ?_, fun k hk2 => ?_⟩, hR.left_eq⟩
  · refine (hall.trans ho (fun _ _ q => q) (fun i hi q => fun e => ?_)).trans ho3 (fun _ _ q => q) (fun i hi q => fun e => ?_)
    · rw [h.keepx i hi e] at q
      rcases q with q | q <;> cases q
    · rw [h.keepx i hi e] at q
      cases q
  · by_cases hi2 : w.heap.size ≤ i
    · omega
    · exact h.low i fun q => hi (hx i (by omega) q)
  · refine hd.bound.mono fun i hi => ?_
    by_cases h2 : w2.heap.size ≤ i
    · exact hC i h2 hi.2
    · have q := hi.1.resolve_right h2
      have h3 : i < wn.heap.size := Classical.byContradiction fun h3 => by
        rw [h.hi i (by omega)] at q
        cases q
      rw [hA i h3 (by rw [q]; simp) (by rw [q]; simp), q]
  · rw [hA mp hmp (by rw [h.mpc]; simp) (by rw [h.mpc]; simp), h.mpc]
  · by_cases e : k = key
    · subst e
      simp only [setF, if_true]
      refine (hl.step ho3 (fun i hi hs q => ?_) (fun i hi q => hBB i hi q))
      rcases hs with (hs | hs) | hs
      · rw [q] at hs; cases hs
      · rw [q] at hs; cases hs
      · rw [h.hi i (by unfold New at hs; omega)] at q; cases q
    · have hk3 : k ∈ kd' := (setK_mem.1 hk2).resolve_right e
      simp only [setF, if_neg e]
      have h1 := (hkd k hk3).step (S' := fun i => c i = .dk k ∧ i < wn.heap.size) ho (fun i hi hs q => by rw [hs] at q; rcases q with q | q <;> cases q; exact e rfl) (fun i hi q => ⟨q, hi⟩)
      exact h1.step ho3 (fun i hi hs q => by rw [hs.1] at q; cases q) (fun i hi q => by
        rw [hA i q.2 (by rw [q.1]; simpa using e) (by rw [q.1]; simp)]; exact q.1)
  · simp only [Bool.and_eq_true, decide_eq_true_eq] at ht2
    have h1 := (hkp k hk2 ht2.1).step (S' := fun i => c i = .pk k ∧ i < wn.heap.size) ho (fun i hi hs q => by rw [hs] at q; rcases q with q | q <;> cases q; exact ht2.2 rfl) (fun i hi q => ⟨q, hi⟩)
    exact h1.step ho3 (fun i hi hs q => by rw [hs.1] at q; cases q) (fun i hi q => by
      rw [hA i q.2 (by rw [q.1]; simp) (by rw [q.1]; simpa using ht2.2)]; exact q.1)
  · rcases setK_mem.1 hk2 with q | rfl
    · exact h.sub k q
    · exact .inr hk
  · have hne : k ≠ key := by
      rintro rfl
      rcases hk2 with q | q
      · exact q hk
      · simp at q
    have := h.rest k (hk2.imp id (fun q => by simp only [Bool.and_eq_true] at q; exact q.1))
    refine ⟨by rw [setK_mem, ← this.1]; exact ⟨fun q => q.resolve_right hne, .inl⟩, ?_⟩
    simp only [if_neg hne]
    exact this.2
  · by_cases e : k = key
    · subst e
      refine ⟨fun q => absurd q h0, fun _ => ⟨setK_mem.2 (.inr rfl), ?_, ?_⟩⟩
      · simp only [if_true]; exact hD1
      · simp only [if_true]; exact hD2
    · have ht3 : todo k = false := by simpa [e] using ht2
      obtain ⟨q1, q2⟩ := h.done k hk2 ht3
      refine ⟨fun a b => q1 a ((setK_mem.1 b).resolve_right e), fun a => ⟨setK_mem.2 (.inl (q2 a).1), ?_, ?_⟩⟩
      · simp only [if_neg e]; exact (q2 a).2.1
      · simp only [if_neg e]; exact (q2 a).2.2
  · by_cases e : k = key
    · simp only [if_pos e]; exact hT
    · simp only [if_neg e]
      exact h.tdy k ((setK_mem.1 hk2).resolve_right e)
end
end Go.Proofs.YtdjogkfgegopfaaDoor
namespace Go.Proofs.YtdjogkfgegopfaaDoor.Pure
open Go.RowKit Go.Proofs.YtdjogkfgegopfaaDoor.MFnPaMergeAgain Go.Proofs.YtdjogkfgegopfaaDoorW.PrintWords Go.Proofs.YtdjogkfgegopfaaDoor
set_option linter.unusedVariables false
set_option linter.unusedSimpArgs false

/-! ### Numbers -/
open Go.Proofs.YtdjogkfgegopfaaDoor.Mspecreadernumber (spec_reader_take.f spec_reader_here.f spec_reader_digits.l0 spec_reader_digits.f spec_reader_number.j0 spec_reader_number.j1 spec_reader_number.j2 spec_reader_number.f)
def In (s : ByteArray) (r : Bool × ByteArray × Int) : Prop := r.2.1 = s ∧ 0 ≤ r.2.2 ∧ r.2.2 ≤ s.size
theorem take_e (s : ByteArray) (i c : Int) (h0 : 0 ≤ i) (h1 : i ≤ s.size) (hz : s.size ≤ 4611686018427387904) : EndsP (fun _ => spec_reader_take.f s i c) (fun r => In s r ∧ (r.1 = true → i < s.size ∧ bt s i = c) ∧ (r.1 = false → r.2.2 = i)) := by
  unfold spec_reader_take.f
  refine .ite (fun h => ?_) (fun h => .pure ⟨⟨rfl, h0, h1⟩, (fun q => by cases q), fun _ => rfl⟩)
  refine .ite (fun _ => ?_) (fun q => absurd h0 q)
  refine .ite (fun e => .pure ⟨⟨rfl, ?_, ?_⟩, fun _ => ⟨h, e⟩, (fun q => by cases q)⟩) (fun e => .pure ⟨⟨rfl, h0, h1⟩, (fun q => by cases q), fun _ => rfl⟩)
  · show 0 ≤ wrap64 (i + 1); simp only [wrap64]; omega
  · show wrap64 (i + 1) ≤ s.size; simp only [wrap64]; omega
theorem here_e (s : ByteArray) (i : Int) (h0 : 0 ≤ i) (h1 : i ≤ s.size) : EndsP (fun _ => spec_reader_here.f s i) (fun r => r.2.1 = s ∧ r.2.2 = i ∧ (r.1 = 0 ∨ (i < s.size ∧ r.1 = bt s i))) := by
  unfold spec_reader_here.f
  refine .ite (fun h => ?_) (fun h => .pure ⟨rfl, rfl, .inl rfl⟩)
  exact .ite (fun _ => .pure ⟨rfl, rfl, .inr ⟨h, rfl⟩⟩) (fun q => absurd h0 q)
theorem digits_l0 (s : ByteArray) (hz : s.size ≤ 4611686018427387904) (st : Int) (X : Prop) (hst : 0 ≤ st) : ∀ (m : Nat) (c q : Int), 0 ≤ q → q ≤ s.size → (c = 0 ∨ q < s.size) → ((s.size : Int) - q).toNat ≤ m → (q > st → X) → ((48 ≤ c ∧ c ≤ 57) → X) → EndsP (fun k => spec_reader_digits.l0 k st c s q) (fun r => In s r ∧ (r.1 = true → X))
  | m, c, q, h0, h1, hc, hm, hX, hX2 => by
    refine EndsP.succ (f := fun k => _) ?_ (fun k => by simp only [spec_reader_digits.l0]; rfl)
    have hend : EndsP (fun _ => some ((decide (q > st), s, q) : Bool × ByteArray × Int)) (fun r => In s r ∧ (r.1 = true → X)) := .pure ⟨⟨rfl, h0, h1⟩, fun z => hX (by simpa using z)⟩
    refine .ite (fun a => ?_) (fun _ => hend)
    refine .ite (fun b => ?_) (fun _ => hend)
    have hq : q < s.size := by rcases hc with rfl | h; omega; exact h
    have e : wrap64 (q + 1) = q + 1 := by simp only [wrap64]; omega
    rw [e]
    refine .bind (here_e s (q + 1) (by omega) (by omega)) (fun r hr => ?_)
    obtain ⟨r1, r2, r3⟩ := r
    simp only [In] at hr
    obtain ⟨rfl, rfl, hr⟩ := hr
    cases m with
    | zero => omega
    | succ m => exact digits_l0 r2 hz st X hst m r1 (q + 1) (by omega) (by omega) (hr.imp id (fun z => z.1)) (by omega) (fun _ => hX2 ⟨a, b⟩) (fun _ => hX2 ⟨a, b⟩)
theorem digits_e (s : ByteArray) (hz : s.size ≤ 4611686018427387904) (i : Int) (h0 : 0 ≤ i) (h1 : i ≤ s.size) : EndsP (fun k => spec_reader_digits.f k s i) (fun r => In s r ∧ (r.1 = true → i < s.size ∧ 48 ≤ bt s i ∧ bt s i ≤ 57)) := by
  simp only [spec_reader_digits.f]
  refine .bind (here_e s i h0 h1) (fun r hr => ?_)
  obtain ⟨r1, r2, r3⟩ := r
  simp only [In] at hr
  obtain ⟨rfl, rfl, hr⟩ := hr
  refine digits_l0 r2 hz r3 _ h0 _ r1 r3 h0 h1 (hr.imp id (fun z => z.1)) (Nat.le_refl _) (fun h => by omega) (fun h => ?_)
  rcases hr with hr | hr
  · have hr : r1 = 0 := hr
    omega
  · have e : r1 = bt r2 r3 := hr.2
    exact ⟨hr.1, by omega, by omega⟩
theorem num_j2 (s : ByteArray) (hz : s.size ≤ 4611686018427387904) (b : Bool) (i : Int) (h0 : 0 ≤ i) (h1 : i ≤ s.size) : EndsP (fun k => spec_reader_number.j2 k b s i) (fun _ => True) := by
  refine EndsP.succ (f := fun k => _) ?_ (fun k => by simp only [spec_reader_number.j2]; rfl)
  refine .ite (fun _ => ?_) (fun _ => .pure trivial)
  refine .bind (take_e s i 43 h0 h1 hz) (fun r hr => ?_)
  obtain ⟨r1, r2, r3⟩ := r
  simp only [In] at hr
  obtain ⟨⟨rfl, g0, g1⟩, -, -⟩ := hr
  refine .ite (fun _ => .bind (digits_e r2 hz r3 g0 g1) (fun _ _ => .pure trivial)) (fun _ => ?_)
  refine .bind (take_e r2 r3 45 g0 g1 hz) (fun q hq => ?_)
  obtain ⟨q1, q2, q3⟩ := q
  simp only [In] at hq
  obtain ⟨⟨rfl, k0, k1⟩, -, -⟩ := hq
  exact .bind (digits_e q2 hz q3 k0 k1) (fun _ _ => .pure trivial)
theorem num_j1 (s : ByteArray) (hz : s.size ≤ 4611686018427387904) (b : Bool) (i : Int) (h0 : 0 ≤ i) (h1 : i ≤ s.size) : EndsP (fun k => spec_reader_number.j1 k b s i) (fun _ => True) := by
  refine EndsP.succ (f := fun k => _) ?_ (fun k => by simp only [spec_reader_number.j1]; rfl)
  refine .ite (fun _ => .pure trivial) (fun _ => ?_)
  refine .bind (take_e s i 101 h0 h1 hz) (fun r hr => ?_)
  obtain ⟨r1, r2, r3⟩ := r
  simp only [In] at hr
  obtain ⟨⟨rfl, g0, g1⟩, -, -⟩ := hr
  refine .ite (fun _ => num_j2 r2 hz _ r3 g0 g1) (fun _ => ?_)
  refine .bind (take_e r2 r3 69 g0 g1 hz) (fun q hq => ?_)
  obtain ⟨q1, q2, q3⟩ := q
  simp only [In] at hq
  obtain ⟨⟨rfl, k0, k1⟩, -, -⟩ := hq
  exact num_j2 q2 hz _ q3 k0 k1
theorem num_j0 (s : ByteArray) (hz : s.size ≤ 4611686018427387904) (b : Bool) (i : Int) (h0 : 0 ≤ i) (h1 : i ≤ s.size) : EndsP (fun k => spec_reader_number.j0 k b s i) (fun r => b = true → r.1 = false) := by
  refine EndsP.succ (f := fun k => _) ?_ (fun k => by simp only [spec_reader_number.j0]; rfl)
  refine .ite (fun _ => .pure (fun _ => rfl)) (fun hb => ?_)
  refine .bind (take_e s i 46 h0 h1 hz) (fun r hr => ?_)
  obtain ⟨r1, r2, r3⟩ := r
  simp only [In] at hr
  obtain ⟨⟨rfl, g0, g1⟩, -, -⟩ := hr
  refine .ite (fun _ => ?_) (fun _ => (num_j1 r2 hz _ r3 g0 g1).mono (fun _ _ q => absurd q hb))
  refine .bind (digits_e r2 hz r3 g0 g1) (fun q hq => ?_)
  obtain ⟨q1, q2, q3⟩ := q
  simp only [In] at hq
  obtain ⟨⟨rfl, k0, k1⟩, -⟩ := hq
  exact (num_j1 q2 hz _ q3 k0 k1).mono (fun _ _ q => absurd q hb)
/-- Begins as a number does. -/
def Head (s : ByteArray) : Prop := 0 < s.size ∧ (bt s 0 = 45 ∨ (48 ≤ bt s 0 ∧ bt s 0 ≤ 57))
theorem number_e (s : ByteArray) (hz : s.size ≤ 4611686018427387904) : EndsP (fun k => spec_IsNumber.f k s) (fun r => r = true → Head s) := by
  have key : EndsP (fun k => spec_reader_number.f k s 0) (fun r => r.1 = true → Head s) := by
    simp only [spec_reader_number.f]
    refine .bind (take_e s 0 45 (by omega) (by omega) hz) (fun r hr => ?_)
    obtain ⟨r1, r2, r3⟩ := r
    simp only [In] at hr
    obtain ⟨⟨rfl, g0, g1⟩, hr1, hr2⟩ := hr
    refine .bind (take_e r2 r3 48 g0 g1 hz) (fun q hq => ?_)
    obtain ⟨q1, q2, q3⟩ := q
    simp only [In] at hq
    obtain ⟨⟨rfl, k0, k1⟩, hq1, hq2⟩ := hq
    simp only at hr1 hr2 hq1 hq2 g0 g1 k0 k1 ⊢
    refine .ite (fun hq => (num_j0 q2 hz _ q3 k0 k1).mono (fun p _ _ => ?_)) (fun hq => ?_)
    · cases r1 with
      | true => have := hr1 rfl; exact ⟨by omega, .inl this.2⟩
      | false =>
        have e := hr2 rfl
        have := hq1 hq
        rw [e] at this
        exact ⟨by omega, .inr ⟨by omega, by omega⟩⟩
    · refine .bind (digits_e q2 hz q3 k0 k1) (fun p hp => ?_)
      obtain ⟨p1, p2, p3⟩ := p
      simp only [In] at hp
      obtain ⟨⟨rfl, j0, j1⟩, hp1⟩ := hp
      simp only at hp1 j0 j1 ⊢
      refine (num_j0 p2 hz _ p3 j0 j1).mono (fun z hz1 hz2 => ?_)
      cases r1 with
      | true => have := hr1 rfl; exact ⟨by omega, .inl this.2⟩
      | false =>
        have e := hr2 rfl
        have e2 := hq2 (by simpa using hq)
        rw [e] at e2
        subst e2
        cases p1 with
        | true => have := hp1 rfl; exact ⟨by omega, .inr this.2⟩
        | false => rw [hz1 rfl] at hz2; cases hz2
  unfold spec_IsNumber.f
  refine .bind key (fun r hr => .pure (fun q => ?_))
  rw [Bool.and_eq_true] at q
  exact hr q.1
theorem head_num {s : ByteArray} (h : Head s) : numHead s.data.toList = true := by
  obtain ⟨h0, h1⟩ := h
  have hb : bt s 0 = (s.data[0]'(by simpa using h0)).toNat := by
    have := bt_at s 0 (by simpa using h0)
    rw [← this]
    rfl
  obtain ⟨⟨l⟩⟩ := s
  cases l with
  | nil => exact absurd h0 (Nat.lt_irrefl 0)
  | cons c l =>
    have hb : bt (⟨⟨c :: l⟩⟩ : ByteArray) 0 = (c.toNat : Int) := hb
    rw [hb] at h1
    simp only [numHead, Bool.or_eq_true, Bool.and_eq_true, decide_eq_true_eq, beq_iff_eq]
    rcases h1 with h1 | h1
    · left
      apply UInt8.toNat_inj.1
      have : (45 : UInt8).toNat = 45 := rfl
      omega
    · right
      rw [UInt8.le_iff_toNat_le, UInt8.le_iff_toNat_le]
      have e1 : (48 : UInt8).toNat = 48 := rfl
      have e2 : (57 : UInt8).toNat = 57 := rfl
      omega

/-! ### Tidy -/
mutual
def T0 : S25 → Prop
  | ⟨k, t, ks, vs⟩ => (((k = 0 ∨ k = 1 ∨ k = 2) ∧ t = ByteArray.empty ∧ ks = [] ∧ vs = []) ∨ (k = 3 ∧ Head t ∧ ks = [] ∧ vs = []) ∨ (k = 4 ∧ ks = [] ∧ vs = []) ∨ (k = 5 ∧ t = ByteArray.empty ∧ ks = []) ∨ (k = 6 ∧ t = ByteArray.empty ∧ ks.length = vs.length)) ∧ T0L vs
def T0L : List S25 → Prop
  | [] => True
  | v :: r => T0 v ∧ T0L r
end
theorem len0 {α : Type} {l : List α} (h : (l.length : Int) = 0) : l = [] := List.length_eq_zero_iff.1 (by omega)
theorem txt0 {t : ByteArray} (h : t.toList = ([] : List UInt8)) : t = ByteArray.empty := toList_inj (h.trans (by rw [ByteArray.toList_eq]; rfl))
theorem tidy_l0 (a : Int) (t : ByteArray) (ks : List ByteArray) (l : List S25) (hb : l.length ≤ 4611686018427387904) (hs : ∀ v : S25, v ∈ l → EndsP (fun k => spec_Tidy.f k v.f0 v.f1 v.f2 v.f3) (fun r => r = true → T0 v)) :
    ∀ (m i : Nat) (b : Bool), i + m = l.length → EndsP (fun k => spec_Tidy.l0 k b (i : Int) a t ks l) (fun r => r = true → b = true ∧ T0L (l.drop i))
  | 0, i, b, h => by
    refine EndsP.succ (f := fun k => _) ?_ (fun k => by simp only [spec_Tidy.l0]; rfl)
    have e : l.drop i = [] := List.drop_eq_nil_of_le (by omega)
    rw [e]
    refine .ite (fun _ => ?_) (fun hb => .pure (fun q => absurd q hb))
    exact .ite (fun h => by omega) (fun _ => .pure (fun q => ⟨q, trivial⟩))
  | m + 1, i, b, h => by
    have hi : i < l.length := by omega
    refine EndsP.succ (f := fun k => _) ?_ (fun k => by simp only [spec_Tidy.l0]; rfl)
    refine .ite (fun hbt => ?_) (fun hb => .pure (fun q => absurd q hb))
    refine .ite (fun _ => ?_) (fun h => by omega)
    refine .ite (fun _ => ?_) (fun h => by omega)
    rw [rd_at hi]
    refine .bind (hs l[i] (List.getElem_mem hi)) (fun r hr => ?_)
    rw [wrap_step hi hb]
    refine (tidy_l0 a t ks l hb hs m (i + 1) r (by omega)).mono (fun q hq hqt => ?_)
    obtain ⟨h1, h2⟩ := hq hqt
    rw [List.drop_eq_getElem_cons hi]
    simp only [T0L]
    exact ⟨hbt, hr h1, h2⟩
theorem tidy_j1 (a : Int) (t : ByteArray) (ks : List ByteArray) (l : List S25) (hb : l.length ≤ 4611686018427387904) (hs : ∀ v : S25, v ∈ l → EndsP (fun k => spec_Tidy.f k v.f0 v.f1 v.f2 v.f3) (fun r => r = true → T0 v)) (b : Bool) :
    EndsP (fun k => spec_Tidy.j1 k b a t ks l) (fun r => r = true → b = true ∧ T0L l) := by
  refine EndsP.succ (f := fun k => _) ?_ (fun k => by simp only [spec_Tidy.j1]; rfl)
  exact (tidy_l0 a t ks l hb hs l.length 0 b (by simp)).mono (fun r h q => by simpa using h q)
theorem tidy_j0 (a : Int) (t : ByteArray) (ks : List ByteArray) (l : List S25) (hb : l.length ≤ 4611686018427387904) (ht : t.size ≤ 4611686018427387904) (hs : ∀ v : S25, v ∈ l → EndsP (fun k => spec_Tidy.f k v.f0 v.f1 v.f2 v.f3) (fun r => r = true → T0 v)) (b : Bool) (hbt : b = true → a = 0 ∨ a = 1 ∨ a = 2) :
    EndsP (fun k => spec_Tidy.j0 k a b a t ks l) (fun r => r = true → T0 ⟨a, t, ks, l⟩) := by
  have J := tidy_j1 a t ks l hb hs
  have F : ∀ P : Prop, EndsP (fun k => spec_Tidy.j1 k false a t ks l) (fun r => r = true → P) := fun P => (J false).mono (fun r h q => by cases (h q).1)
  refine EndsP.succ (f := fun k => _) ?_ (fun k => by simp only [spec_Tidy.j0]; rfl)
  simp only [T0]
  refine .ite (fun hb1 => ?_) (fun _ => ?_)
  · refine .ite (fun h1 => ?_) (fun _ => F _)
    refine .ite (fun h2 => ?_) (fun _ => F _)
    refine (J _).mono (fun r h q => ?_)
    obtain ⟨h3, h4⟩ := h q
    exact ⟨.inl ⟨hbt hb1, txt0 h1, len0 h2, len0 (by simpa using h3)⟩, h4⟩
  refine .ite (fun h3 => ?_) (fun _ => ?_)
  · refine .bind (number_e t ht) (fun z hz => ?_)
    refine .ite (fun h1 => ?_) (fun _ => F _)
    refine .ite (fun h2 => ?_) (fun _ => F _)
    refine (J _).mono (fun r h q => ?_)
    obtain ⟨h4, h5⟩ := h q
    exact ⟨.inr (.inl ⟨h3, hz h1, len0 h2, len0 (by simpa using h4)⟩), h5⟩
  refine .ite (fun h4 => ?_) (fun _ => ?_)
  · refine .ite (fun h2 => ?_) (fun _ => F _)
    refine (J _).mono (fun r h q => ?_)
    obtain ⟨h3, h5⟩ := h q
    exact ⟨.inr (.inr (.inl ⟨h4, len0 h2, len0 (by simpa using h3)⟩)), h5⟩
  refine .ite (fun h5 => ?_) (fun _ => ?_)
  · refine .ite (fun h1 => ?_) (fun _ => F _)
    refine (J _).mono (fun r h q => ?_)
    obtain ⟨h3, h4⟩ := h q
    exact ⟨.inr (.inr (.inr (.inl ⟨h5, txt0 h1, len0 (by simpa using h3)⟩))), h4⟩
  refine .ite (fun h6 => ?_) (fun _ => F _)
  refine .ite (fun h1 => ?_) (fun _ => F _)
  refine (J _).mono (fun r h q => ?_)
  obtain ⟨h3, h4⟩ := h q
  have h3 : (ks.length : Int) = l.length := by simpa using h3
  exact ⟨.inr (.inr (.inr (.inr ⟨h6, txt0 h1, by omega⟩))), h4⟩
theorem tidy_e (B : Nat) (hB : B ≤ 4611686018427387904) : ∀ (m : Nat) (n : S25), SizeOf.sizeOf n ≤ m → big B n → EndsP (fun k => spec_Tidy.f k n.f0 n.f1 n.f2 n.f3) (fun r => r = true → T0 n)
  | 0, n, h, _ => by cases n; simp at h
  | m + 1, ⟨a, t, ks, vs⟩, h, hl => by
    simp only [big] at hl
    have J := tidy_j0 a t ks vs (by omega) (by omega) (fun v hv => tidy_e B hB m v (by
      have := List.sizeOf_lt_of_mem hv
      simp at h
      omega) (bigL_get hl.2.2.2.2 hv))
    refine EndsP.succ (f := fun k => _) ?_ (fun k => by simp only [spec_Tidy.f]; rfl)
    refine .ite (fun h0 => J _ (fun _ => .inl h0)) (fun _ => ?_)
    refine .ite (fun h1 => J _ (fun _ => .inr (.inl h1))) (fun _ => J _ (fun h2 => .inr (.inr (by simpa using h2))))

/-- What is tidy to the laws is tidy to the walks. -/
theorem leaf12 {k : Int} (h : k = 1 ∨ k = 2) : (leafB k ByteArray.empty).isSome = true := by
  rcases h with rfl | rfl <;> rfl
mutual
theorem tidy_of {B : Nat} : ∀ (n : S25), T0 n → uniq n → big B n → tidy B n
  | ⟨k, t, ks, vs⟩, h, hu, hb => by
    simp only [T0] at h
    simp only [uniq] at hu
    simp only [big] at hb
    simp only [tidy]
    refine ⟨?_, hb.1, hb.2.1, hb.2.2.1, hb.2.2.2.1, tidyL_of vs h.2 hu.2 hb.2.2.2.2⟩
    rcases h.1 with ⟨h0, h1, h2, h3⟩ | ⟨h0, h1, h2, h3⟩ | ⟨h0, h2, h3⟩ | ⟨h0, h1, h2⟩ | ⟨h0, h1, h2⟩
    · rcases h0 with h0 | h0
      · exact .inl ⟨h0, h1, h2, h3⟩
      · subst h1
        exact .inr (.inl ⟨leaf12 h0, h2, h3⟩)
    · subst h0
      refine .inr (.inl ⟨?_, h2, h3⟩)
      simp [leafB, head_num h1]
    · subst h0
      refine .inr (.inl ⟨?_, h2, h3⟩)
      simp [leafB]
    · exact .inr (.inr (.inl ⟨h0, h1, h2⟩))
    · exact .inr (.inr (.inr ⟨h0, h1, hu.1, h2⟩))
theorem tidyL_of {B : Nat} : ∀ (l : List S25), T0L l → uniqL l → bigL B l → tidyL B l
  | [], _, _, _ => by simp [tidyL]
  | v :: r, h, hu, hb => by
    simp only [T0L] at h
    simp only [uniqL] at hu
    simp only [bigL] at hb
    simp only [tidyL]
    exact ⟨tidy_of v h.1 hu.1 hb.1, tidyL_of r h.2 hu.2 hb.2⟩
end
mutual
theorem tidy_well {B : Nat} : ∀ (n : S25), tidy B n → well n
  | ⟨k, t, ks, vs⟩, h => by
    simp only [tidy] at h
    simp only [well]
    refine ⟨fun h6 => ?_, tidyL_well vs h.2.2.2.2.2⟩
    subst h6
    rcases h.1 with ⟨q, _⟩ | ⟨q, _⟩ | ⟨q, _⟩ | ⟨_, _, h1, h2⟩
    · cases q
    · obtain ⟨bs, hbs⟩ := Option.isSome_iff_exists.1 q
      rcases leafB_kind hbs with h | h | h | h <;> cases h
    · cases q
    · exact ⟨h1, h2⟩
theorem tidyL_well {B : Nat} : ∀ (l : List S25), tidyL B l → wellL l
  | [], _ => by simp [wellL]
  | v :: r, h => by
    simp only [tidyL] at h
    simp only [wellL]
    exact ⟨tidy_well v h.1, tidyL_well r h.2⟩
end
theorem tidyL_lk {B : Nat} : ∀ (ks : List ByteArray) (vs : List S25) (k : ByteArray) (v : S25), tidyL B vs → lkL ks vs k = some v → tidy B v ∧ SizeOf.sizeOf v < SizeOf.sizeOf vs
  | a :: ks, u :: vs, k, v, hw, h => by
    simp only [tidyL] at hw
    simp only [lkL] at h
    split at h
    · cases h
      exact ⟨hw.1, by simp; omega⟩
    · obtain ⟨h1, h2⟩ := tidyL_lk ks vs k v hw.2 h
      exact ⟨h1, by simp; omega⟩
  | [], _, _, _, _, h => by simp [lkL] at h
  | _ :: _, [], _, _, _, h => by simp [lkL] at h
theorem tidy_blank {B : Nat} : ∀ (m : Nat) (n : S25), SizeOf.sizeOf n ≤ m → tidy B n → Blank n
  | 0, n, h, _ => by cases n; simp at h
  | m + 1, ⟨k, t, ks, vs⟩, h, ht => by
    simp only [tidy] at ht
    refine .mk _ (fun h6 => ?_) (fun x v hv => ?_)
    · have h6 : k = 6 := h6
      subst h6
      rcases ht.1 with ⟨q, _⟩ | ⟨q, _⟩ | ⟨q, _⟩ | ⟨_, h1, _⟩
      · cases q
      · obtain ⟨bs, hbs⟩ := Option.isSome_iff_exists.1 q
        rcases leafB_kind hbs with h | h | h | h <;> cases h
      · cases q
      · exact h1
    · obtain ⟨h1, h2⟩ := tidyL_lk ks vs x v ht.2.2.2.2.2 hv
      exact tidy_blank m v (by simp at h; omega) h1

/-! ### Documents and merge patches -/
def Good (B : Nat) (n : S25) : Prop := tidy B n
theorem value_e (B : Nat) (hB : B ≤ 4611686018427387904) (n : S25) (h : big B n) : EndsP (fun k => laws_paValue.f k n.f0 n.f1 n.f2 n.f3) (fun r => r = true → tidy B n) := by
  have hl := big_lim n h
  simp only [laws_paValue.f]
  refine .bind (tidy_e B hB _ n (Nat.le_refl _) h) (fun r1 h1 => ?_)
  refine .ite (fun q1 => ?_) (fun _ => .pure (fun q => by cases q))
  refine .bind (.of_ends (size_ends B hB _ n (Nat.le_refl _) hl)) (fun r2 _ => ?_)
  refine .ite (fun _ => ?_) (fun _ => .pure (fun q => by cases q))
  refine .bind (.of_ends (depth_ends B hB _ n (Nat.le_refl _) hl)) (fun r3 _ => ?_)
  refine .ite (fun _ => ?_) (fun _ => .pure (fun q => by cases q))
  refine .bind (P := fun r => r = true → uniq n) (unique_ev B hB _ n (Nat.le_refl _) hl) (fun r4 h4 => ?_)
  refine .ite (fun q4 => ?_) (fun _ => .pure (fun q => by cases q))
  refine .bind (all8_e B hB _ n (Nat.le_refl _) h) (fun r5 _ => .pure (fun _ => ?_))
  exact tidy_of n (h1 q1) (h4 q4) h
theorem merges_e (B : Nat) (hB : B ≤ 4611686018427387904) (d p : S25) (hd : big B d) (hp : big B p) : EndsP (fun k => laws_paMerges.f k d.f0 d.f1 d.f2 d.f3 p.f0 p.f1 p.f2 p.f3) (fun r => r = true → d.f0 = 6 ∧ p.f0 = 6 ∧ tidy B d ∧ tidy B p ∧ arrFree p = true) := by
  simp only [laws_paMerges.f]
  refine .ite (fun q1 => ?_) (fun _ => .pure (fun q => by cases q))
  refine .ite (fun q2 => ?_) (fun _ => .pure (fun q => by cases q))
  refine .bind (value_e B hB d hd) (fun r1 h1 => ?_)
  refine .ite (fun q3 => ?_) (fun _ => .pure (fun q => by cases q))
  refine .bind (value_e B hB p hp) (fun r2 h2 => ?_)
  refine .ite (fun q4 => ?_) (fun _ => .pure (fun q => by cases q))
  refine .bind (P := fun r => r = !arrFree p) ⟨_, keeps_ev B hB _ p (Nat.le_refl _) (big_lim p hp), rfl⟩ (fun r3 h3 => .pure (fun q => ?_))
  exact ⟨q1, q2, h1 q3, h2 q4, by rw [h3] at q; simpa using q⟩
end Go.Proofs.YtdjogkfgegopfaaDoor.Pure
namespace Go.Proofs.YtdjogkfgegopfaaDoor
open Go.RowKit Go.Maps Go.Proofs.YtdjogkfgegopfaaDoor.MFnPaMergeAgain Go.Proofs.YtdjogkfgegopfaaDoor.Pure Go.Proofs.YtdjogkfgegopfaaDoorW.PrintWords Go.Proofs.YtdjogkfgegopfaaDoorW.PrintLast
set_option linter.unusedVariables false
set_option linter.unusedSimpArgs false

theorem sub_len : ∀ (l1 l2 : List ByteArray), l1.Nodup → (∀ k, k ∈ l1 → k ∈ l2) → l1.length ≤ l2.length
  | [], _, _, _ => Nat.zero_le _
  | a :: t, l2, hn, h => by
    have hn2 := List.nodup_cons.1 hn
    have ha : a ∈ l2 := h a (List.mem_cons_self ..)
    have h1 := sub_len t (l2.filter (fun x => decide (x ≠ a))) hn2.2 (fun k hk => List.mem_filter.2 ⟨h k (List.mem_cons_of_mem _ hk), by
      have : k ≠ a := fun q => hn2.1 (q ▸ hk)
      simpa using this⟩)
    have h2 : (l2.filter (fun x => decide (x ≠ a))).length < l2.length := List.length_filter_lt_length_iff_exists.2 ⟨a, ha, by simp⟩
    simp only [List.length_cons]
    omega

def MergePost (w : World) (d p : S25) (L : Nat) (Sc Sv : Nat → Prop) : Ending → World → Prop := fun e w' => ∃ r R, e = .returned (pv r) ∧ MergeTo d p R ∧ tidy L R ∧ LN false w' (pv r) R (fun i => (Sc i ∨ Sv i) ∨ New w i) ∧ Only (fun i => Sc i ∨ Sv i) w w'
/-- What merge does at two values that are not null. -/
def MergeOk (B L1 L : Nat) (v : Value) (p : S25) : Prop := ∀ W c d Sc Sv o, tidy L1 d → LN false W c d Sc → LN false W v p Sv → d.f0 ≠ 0 → p.f0 ≠ 0 → (∀ i, Sc i → ¬ Sv i) → GLp B W → (∀ i, Sc i ∨ Sv i → B ≤ i ∧ i ≠ o) → o < W.heap.size → W.cell? ⟨o, 2, none⟩ = some (.bool false) →
  Calls Tryd.prog 41 #[c, v, .bool false, pv o] W (MergePost W d p L Sc Sv)

structure MAsk (B : Nat) (w : World) (o d m e mp L1 L2 : Nat) (kd kp : List ByteArray) (fd fp : ByteArray → Value) (td tp : ByteArray → S25) (c0 : Nat → Own) : Prop where
  gl : GLp B w
  ob : o < w.heap.size ∧ c0 o = .x ∧ w.cell? ⟨o, 2, none⟩ = some (.bool false)
  low : ∀ i, c0 i ≠ .x → B ≤ i
  doc : DocAt w (fun i => c0 i = .d) d m kd fd
  pat : DocAt w (fun i => c0 i = .p) e mp kp fp
  dks : ∀ k, k ∈ kd → LN false w (fd k) (td k) (fun i => c0 i = .dk k)
  pks : ∀ k, k ∈ kp → LN false w (fp k) (tp k) (fun i => c0 i = .pk k)
  tdd : ∀ k, k ∈ kd → tidy L1 (td k)
  tdp : ∀ k, k ∈ kp → tidy L2 (tp k)
  len : kd.length ≤ L1 ∧ kp.length ≤ L2 ∧ L1 + L2 ≤ 1099511627776

structure MDone (w : World) (d m L : Nat) (kd kp : List ByteArray) (td tp : ByteArray → S25) (c0 : Nat → Own) (kd' : List ByteArray) (fd' : ByteArray → Value) (td' : ByteArray → S25) (c : Nat → Own) (w' : World) : Prop where
  keepx : ∀ i, i < w.heap.size → c0 i = .x → c i = .x
  doc : DocAt w' (fun i => c i = .d) d m kd' fd'
  dks : ∀ k, k ∈ kd' → LN false w' (fd' k) (td' k) (fun i => c i = .dk k)
  len : kd'.length ≤ kd.length + kp.length
  tdy : ∀ k, k ∈ kd' → tidy L (td' k)
  rest : ∀ k, k ∉ kp → (k ∈ kd' ↔ k ∈ kd) ∧ td' k = td k
  done : ∀ k, k ∈ kp → Done kd td tp kd' td' k
  sub : ∀ k, k ∈ kd' → k ∈ kd ∨ k ∈ kp

def MDPost (w : World) (d m L : Nat) (kd kp : List ByteArray) (td tp : ByteArray → S25) (c0 : Nat → Own) : Ending → World → Prop := fun en w' => en = .returned (.tuple #[]) ∧ Only (fun i => c0 i ≠ .x) w w' ∧ ∃ kd' fd' td' c, MDone w d m L kd kp td tp c0 kd' fd' td' c w'

section
variable {B : Nat} {w wr : World} {o d m e mp r L1 L2 : Nat} {kd kp : List ByteArray} {fd fp : ByteArray → Value} {td tp : ByteArray → S25} {c0 : Nat → Own} {todo : ByteArray → Bool} {kd' : List ByteArray} {fd' : ByteArray → Value} {td' : ByteArray → S25} {c : Nat → Own}

theorem MInv.len (h : MInv B w d m mp r (L1 + L2) kd kp fp td tp c0 todo kd' fd' td' c wr) : kd'.length ≤ kd.length + kp.length := by
  obtain ⟨_, _, _, _, _, _, _, _, _, hn, _⟩ := h.doc
  have := sub_len kd' (kd ++ kp) hn (fun k hk => List.mem_append.2 (h.sub k hk))
  rwa [List.length_append] at this

theorem MInv.start (ha : MAsk B w o d m e mp L1 L2 kd kp fd fp td tp c0) {wn : World} {cnt : Nat} (hr : RangeIs wn mp w.heap.size kp.length (pick kp fp) (fun k => (pick kp fp k).isSome) cnt) (hg : w.grownBy wn none) (hz : wn.heap.size = w.heap.size + 1) :
    MInv B w d m mp w.heap.size (L1 + L2) kd kp fp td tp c0 (fun k => (pick kp fp k).isSome) kd fd td (fun i => if i < w.heap.size then c0 i else .x) wn := by
  have ho : Only (fun _ => False) w wn := Only.of_grown hg (fun i hi => by cases hi)
  have hmp : mp < w.heap.size := by
    obtain ⟨_, _, _, _, _, h3, _⟩ := ha.pat
    exact h3.lt
  have hmc : c0 mp = .p := by
    obtain ⟨_, _, _, _, _, _, _, h4, _⟩ := ha.pat
    exact h4
  have hin : ∀ k, k ∈ kp → (pick kp fp k).isSome = true := fun k hk => by rw [pick_in hk]; rfl
  refine ⟨ho.mono (fun _ _ q => q.elim), fun i hi => ?_, fun i hi => if_neg (by omega), fun i hi q => by rw [if_pos hi]; exact q, ⟨Nat.le_refl _, by omega, if_neg (by omega)⟩, ha.doc.step ho (fun _ _ _ q => q) (fun i hi q => by rw [if_pos hi]; exact q), ⟨_, cnt, hr, hr.left_eq⟩, by rw [if_pos hmp]; exact hmc, fun k hk => (ha.dks k hk).step ho (fun _ _ _ q => q) (fun i hi q => by rw [if_pos hi]; exact q), fun k hk _ => (ha.pks k hk).step ho (fun _ _ _ q => q) (fun i hi q => by rw [if_pos hi]; exact q), fun k hk => .inl hk, fun k _ => ⟨Iff.rfl, rfl⟩, fun k hk q => ?_, fun k hk => tidy_mono (Nat.le_add_right _ _) _ (ha.tdd k hk)⟩
  · by_cases h : i < w.heap.size
    · rw [if_pos h] at hi; exact ha.low i hi
    · rw [if_neg h] at hi; exact absurd rfl hi
  · rw [hin k hk] at q; cases q

theorem MInv.fin (h : MInv B w d m mp r (L1 + L2) kd kp fp td tp c0 todo kd' fd' td' c wr) (hks : ∀ k, k ∈ kp → k.size ≤ maxLen) (ht : ∀ k : ByteArray, k.size ≤ maxLen → todo k = false) : MDPost w d m (L1 + L2) kd kp td tp c0 (.returned (.tuple #[])) wr :=
  ⟨rfl, h.only, kd', fd', td', c, h.keepx, h.doc, h.dks, h.len, h.tdy, fun k hk => h.rest k (.inl hk), fun k hk => h.done k hk (ht k (hks k hk)), h.sub⟩

theorem opt_keep {O : Nat → Prop} {w1 : World} (ho : Only O w w1) (hlt : o < w.heap.size) (hO : ¬ O o) {x : Value} (h : w.cell? ⟨o, 2, none⟩ = some x) : w1.cell? ⟨o, 2, none⟩ = some x :=
  (World.cell?_of_block (a := ⟨o, 2, none⟩) (ho.block o hlt hO)).trans h
end

set_option maxRecDepth 1000000 in
set_option maxHeartbeats 4000000 in
theorem mergeDocs_any (B : Nat) (w : World) (o d m e mp L1 L2 : Nat) (kd kp : List ByteArray) (fd fp : ByteArray → Value) (td tp : ByteArray → S25) (c0 : Nat → Own) (ha : MAsk B w o d m e mp L1 L2 kd kp fd fp td tp c0) (IH : ∀ k, k ∈ kp → MergeOk B L1 (L1 + L2) (fp k) (tp k)) :
    Calls Tryd.prog 52 #[pv d, pv e, .bool false, pv o] w (MDPost w d m (L1 + L2) kd kp td tp c0) := by
  obtain ⟨self, kv, opts, h1, h2, h3, h4, h5, h6, h7, hks⟩ := ha.pat
  have c2 := cell_of_row _ e 2 _ _ _ h1
  have H3 := Lib.hid h3
  have HA := Lib.hid ha
  have HI := Lib.hid IH
  have HKS := Lib.hid hks
  clear h1 h2 h3 h4 h5 h6 h7 hks ha IH
  go_enter Tryd.func52, Tryd.ntmps52
  go_wp2_with (first | (at_range; refine wp_range _ rfl _ rfl mp kp.length (pick kp fp) rfl H3.out ?_; intro wn cnt hr hg hz; have HP := Lib.hid (MInv.start HA.out hr hg hz); clear hr hg hz) | fail)
  go_frame
  go_loopw [] (fun wr => ∃ (todo : ByteArray → Bool) (kd' : List ByteArray) (fd' : ByteArray → Value) (td' : ByteArray → S25) (c : Nat → Own), Hid (MInv B w d m mp w.heap.size (L1 + L2) kd kp fp td tp c0 todo kd' fd' td' c wr)) (fun wr => wr.rangeLeft mp w.heap.size)
  case atStart => exact ⟨_, _, _, _, _, HP⟩
  case round =>
    obtain ⟨todo, kd', fd', td', c, HP⟩ := hrel
    obtain ⟨n, cnt, hr, hrl⟩ := HP.out.rng
    have HR := Lib.hid hr
    have HRL := Lib.hid hrl
    clear hr hrl
    go_wp2_with (first | (at_next; refine wp_next _ rfl _ rfl mp w.heap.size n (pick kp fp) todo cnt rfl HR.out ?_ ?_) | fail)
    · intro h0 ht
      have HD := Lib.hid (HP.out.fin HKS.out ht)
      clear ht h0
      go_wp2
      (try simp only [Exit.inBlock, Exit.then])
      refine bodyPost_end (results_none rfl _ _ _) rfl ?_
      exact HD.out
    · intro key v wn cnt1 hksz htodo hpk hrn0 hlt hg hsz hen
      have hrn : RangeIs wn mp w.heap.size n (pick kp fp) (fun z => todo z && decide (z ≠ key)) cnt1 := by
        have e : (fun z => todo z && !decide (z = key)) = (fun z => todo z && decide (z ≠ key)) := by funext z; simp
        rw [← e]
        exact hrn0
      clear hrn0
      have hkk : key ∈ kp := Classical.byContradiction fun q => by rw [pick_out q] at hpk; cases hpk
      rw [pick_in hkk] at hpk
      obtain rfl : fp key = v := Option.some.inj hpk
      obtain ⟨hon, hall, hdn, hkd, hkp⟩ := HP.out.stepped hg
      have hln := hkp key hkk htodo
      obtain ⟨o1, o2, o3⟩ := HA.out.ob
      have hoc : c o = .x := HP.out.keepx o o1 o2
      have hon2 : o < wn.heap.size := by have := hall.size; omega
      have hcell : wn.cell? ⟨o, 2, none⟩ = some (.bool false) := opt_keep hall o1 (by rw [o2]; simp) o3
      have hgl : GLp B wn := HA.out.gl.keep hall HA.out.low
      have hlen : kd'.length ≤ 1099511627776 := by have := HP.out.len; have := HA.out.len; omega
      by_cases h0 : (tp key).f0 = 0
      · have hnil := hln.null h0
        have HC : Hid (∀ w2, DocAt w2 (fun i => c i = .d) d m (delK kd' key) fd' → Only (fun i => c i = .d) wn w2 → (∃ (todo : ByteArray → Bool) (kd' : List ByteArray) (fd' : ByteArray → Value) (td' : ByteArray → S25) (c : Nat → Own), Hid (MInv B w d m mp w.heap.size (L1 + L2) kd kp fp td tp c0 todo kd' fd' td' c w2)) ∧ w2.rangeLeft mp w.heap.size < wr.rangeLeft mp w.heap.size) := Lib.hid fun w2 hd2 ho2 => by
          obtain ⟨p1, p2⟩ := HP.out.drop hkk htodo h0 hrn hg hsz hd2 ho2
          exact ⟨⟨_, _, _, _, _, Lib.hid p1⟩, by rw [HRL.out]; omega⟩
        rw [hnil] at hen
        rw [hnil]
        by_cases hin : key ∈ kd'
        · have HDW := Lib.hid hdn
          have HLEN := Lib.hid hlen
          clear hln hon hall hdn hkd hkp hnil hrn hg hsz hpk htodo hlen hlt o1 o2 o3 hoc hon2 hcell hgl
          go_wp2_with (first | (go_at_call 63; refine (remove_in _ _ d m kd' fd' key _ HDW.out hin HLEN.out).mono ?_; rintro e w2 ⟨rfl, hd2, ho2, -⟩; have HF := Lib.hid (HC.out w2 hd2 ho2); clear hd2 ho2) | fail)
          exact HF.out
        · have HR2 := Lib.hid (remove_out B wn _ d m o false kd' fd' key hdn hin hksz hcell hgl)
          have HC2 : Hid (∀ w2, Below wn.heap.size wn w2 → _) := Lib.hid fun w2 hb => HC.out w2 (by rw [delK_out hin]; exact hdn.step (W := fun _ => False) (Only.of_below hb) (fun _ _ _ q => q) (fun _ _ q => q)) (Only.of_below hb)
          clear hln hon hall hdn hkd hkp hnil hrn hg hsz hpk htodo hlen hlt o1 o2 o3 hoc hon2 hcell hgl
          go_wp2_with (first | (go_at_call 63; refine HR2.out.mono ?_; rintro e w2 ⟨q, hb⟩; obtain ⟨a, rfl⟩ := (q.resolve_left (fun q => Bool.noConfusion q.1)).2; have HF := Lib.hid (HC2.out w2 hb); clear hb q) | fail)
          exact HF.out
      · obtain ⟨b, hb⟩ := hln.some h0
        obtain ⟨hrest1, hrest2⟩ := HP.out.rest key (.inr htodo)
        have hpl : (∀ i, c i = .pk key → B ≤ i ∧ i ≠ o) := fun i hi => ⟨HP.out.low i (by rw [hi]; simp), fun q => by rw [q, hoc] at hi; cases hi⟩
        have hdl : (∀ i, c i = .dk key → B ≤ i ∧ i ≠ o) := fun i hi => ⟨HP.out.low i (by rw [hi]; simp), fun q => by rw [q, hoc] at hi; cases hi⟩
        have HSET : Hid (∀ w2 v T, Only (fun i => c i = .dk key ∨ c i = .pk key) wn w2 → LN false w2 v T (fun i => (c i = .dk key ∨ c i = .pk key) ∨ New wn i) → tidy (L1 + L2) T → ((key ∈ kd → (td key).f0 = 0) → T = prune (tp key)) → (key ∈ kd → (td key).f0 ≠ 0 → MergeTo (td key) (tp key) T) → ∀ op,
            Calls Tryd.prog 64 #[pv d, .string key, v, op] w2 (fun en w3 => en = .returned .nilIface ∧ (∃ (todo : ByteArray → Bool) (kd' : List ByteArray) (fd' : ByteArray → Value) (td' : ByteArray → S25) (c : Nat → Own), Hid (MInv B w d m mp w.heap.size (L1 + L2) kd kp fp td tp c0 todo kd' fd' td' c w3)) ∧ w3.rangeLeft mp w.heap.size < wr.rangeLeft mp w.heap.size)) := Lib.hid fun w2 v T ho2 hl2 hT hD1 hD2 op => by
          have hd2 := hdn.step (O' := fun i => c i = .d) ho2 (fun i _ hs q => by rw [hs] at q; rcases q with q | q <;> cases q) (fun _ _ q => q)
          refine (set_any w2 _ d m kd' fd' key v op hd2 hksz hl2.rp hlen).mono ?_
          rintro en w3 ⟨rfl, hd3, ho3⟩
          obtain ⟨td2, c2, p1, p2⟩ := HP.out.put HA.out.gl.1 hkk htodo h0 hrn hg hsz ho2 hl2 hd3 ho3 hT hD1 hD2
          exact ⟨rfl, ⟨_, _, _, _, _, Lib.hid p1⟩, by rw [p2, HRL.out]; exact hlt⟩
        obtain ⟨sd, kvd, opd, q1, q2, q3, q4⟩ := id hdn
        have e2 := cell_of_row _ d 2 _ _ _ q1
        have hlook := q3.look hksz
        have hmn := map_nn m
        have htp : tidy (L1 + L2) (prune (tp key)) := tidy_mono (Nat.le_add_left _ _) _ (tidy_prune _ (HA.out.tdp key hkk))
        clear q1 q2 q3 q4
        by_cases hcur : key ∈ kd' ∧ (td' key).f0 ≠ 0
        · obtain ⟨hin, hc0⟩ := hcur
          have hlc := hkd key hin
          obtain ⟨b2, hb2⟩ := hlc.some hc0
          have hkd0 := hrest1.1 hin
          have HM := Lib.hid (HI.out key hkk wn (fd' key) (td' key) (fun i => c i = .dk key) (fun i => c i = .pk key) o (by rw [hrest2]; exact HA.out.tdd key hkd0) hlc hln hc0 h0 (fun i a b => by rw [a] at b; cases b) hgl (fun i hi => hi.elim (hdl i) (hpl i)) hon2 hcell)
          have HS2 : Hid (∀ w2 v T, MergeTo (td' key) (tp key) T → tidy (L1 + L2) T → LN false w2 v T (fun i => (c i = .dk key ∨ c i = .pk key) ∨ New wn i) → Only (fun i => c i = .dk key ∨ c i = .pk key) wn w2 → _) := Lib.hid fun w2 v T h1 h2 h3 h4 => HSET.out w2 v T h4 h3 h2 (fun q => absurd (q hkd0) (by rw [← hrest2]; exact hc0)) (fun _ _ => by rw [← hrest2]; exact h1)
          rw [pick_in hin, hb2] at hlook
          simp only [Option.getD_some, Option.isSome_some] at hlook
          rw [hb] at hen HM
          rw [hb2] at HM
          rw [hb]
          clear hln hon hall hdn hkd hkp hrn hg hsz hpk htodo hlen hlt o1 o2 o3 hoc hon2 hcell hgl hpl hdl hrest1 hrest2 htp hlc hc0 hin hkd0 hb hb2 HSET
          go_wp2_with (first | (go_at_call 41; refine HM.out.mono ?_; rintro en w2 ⟨rr, R, rfl, g1, g2, g3, g4⟩; have HS3 := Lib.hid (HS2.out w2 (pv rr) R g1 g2 g3 g4 (pv o)); clear g1 g2 g3 g4) | (go_at_call 64; refine HS3.out.mono ?_; rintro en w3 ⟨rfl, hf⟩; have HF := Lib.hid hf; clear hf) | fail)
          exact HF.out
        · have hnd : key ∈ kd → (td key).f0 = 0 := fun q => Classical.byContradiction fun q2 => hcur ⟨hrest1.2 q, by rw [hrest2]; exact q2⟩
          have HPR := Lib.hid (prune_any B (SizeOf.sizeOf (tp key)) (tp key) (fp key) (Nat.le_refl _) (lim_mono (by have := HA.out.len; omega) (HA.out.tdp key hkk)) wn _ (some ⟨o, 0, none⟩) hln h0 hgl (fun i hi => (hpl i hi).1))
          have HS2 : Hid (∀ w2, LN false w2 (fp key) (prune (tp key)) (fun i => c i = .pk key ∨ New wn i) → Only (fun i => c i = .pk key) wn w2 → _) := Lib.hid fun w2 h1 h2 => HSET.out w2 (fp key) (prune (tp key)) (h2.mono (fun _ _ q => .inr q)) (h1.mono (fun i q => q.imp .inr id)) htp (fun _ => rfl) (fun q q2 => absurd (hnd q) q2)
          rw [hb] at hen HPR HS2
          rw [hb]
          by_cases hin : key ∈ kd'
          · have hnil := (hkd key hin).null (Classical.byContradiction fun q => hcur ⟨hin, q⟩)
            rw [pick_in hin, hnil] at hlook
            simp only [Option.getD_some, Option.isSome_some] at hlook
            clear hln hon hall hdn hkd hkp hrn hg hsz hpk htodo hlen hlt o1 o2 o3 hoc hon2 hcell hgl hpl hdl hrest1 hrest2 htp hin hb HSET hcur hnd hnil
            go_wp2_with (first | (go_at_call 51; refine HPR.out.mono ?_; rintro en w2 ⟨rfl, g1, g2⟩; have HS3 := Lib.hid (HS2.out w2 g1 g2 (pv o)); clear g1 g2) | (go_at_call 64; refine HS3.out.mono ?_; rintro en w3 ⟨rfl, hf⟩; have HF := Lib.hid hf; clear hf) | fail)
            exact HF.out
          · rw [pick_out hin] at hlook
            simp only [Option.getD_none, Option.isSome_none] at hlook
            clear hln hon hall hdn hkd hkp hrn hg hsz hpk htodo hlen hlt o1 o2 o3 hoc hon2 hcell hgl hpl hdl hrest1 hrest2 htp hin hb HSET hcur hnd
            go_wp2_with (first | (go_at_call 51; refine HPR.out.mono ?_; rintro en w2 ⟨rfl, g1, g2⟩; have HS3 := Lib.hid (HS2.out w2 g1 g2 (pv o)); clear g1 g2) | (go_at_call 64; refine HS3.out.mono ?_; rintro en w3 ⟨rfl, hf⟩; have HF := Lib.hid hf; clear hf) | fail)
            exact HF.out
end Go.Proofs.YtdjogkfgegopfaaDoor
namespace Go.Proofs.YtdjogkfgegopfaaDoor
open Go.RowKit Go.Maps Go.Proofs.YtdjogkfgegopfaaDoor.MFnPaMergeAgain Go.Proofs.YtdjogkfgegopfaaDoor.Pure Go.Proofs.YtdjogkfgegopfaaDoorW.PrintWords Go.Proofs.YtdjogkfgegopfaaDoorW.PrintLast
set_option linter.unusedVariables false
set_option linter.unusedSimpArgs false

theorem lkL_keys (t : ByteArray → S25) (k : ByteArray) : ∀ (ks : List ByteArray), (k ∈ ks → lkL ks (ks.map t) k = some (t k)) ∧ (k ∉ ks → lkL ks (ks.map t) k = none)
  | [] => ⟨fun q => absurd q (by simp), fun _ => rfl⟩
  | a :: ks => by
    obtain ⟨q1, q2⟩ := lkL_keys t k ks
    simp only [List.map_cons, lkL, List.mem_cons, not_or]
    by_cases e : a = k
    · subst e
      exact ⟨fun _ => if_pos rfl, fun q => absurd rfl q.1⟩
    · rw [if_neg e]
      exact ⟨fun q => q1 (q.resolve_left fun q => e q.symm), fun q => q2 q.2⟩
theorem lk_in {t : ByteArray → S25} {ks : List ByteArray} {k : ByteArray} (h : k ∈ ks) : lk ⟨6, ByteArray.empty, ks, ks.map t⟩ k = some (t k) := (lkL_keys t k ks).1 h
theorem lk_out {t : ByteArray → S25} {ks : List ByteArray} {k : ByteArray} (h : k ∉ ks) : lk ⟨6, ByteArray.empty, ks, ks.map t⟩ k = none := (lkL_keys t k ks).2 h
theorem lk_some {t : ByteArray → S25} {ks : List ByteArray} {k : ByteArray} {v : S25} (h : lk ⟨6, ByteArray.empty, ks, ks.map t⟩ k = some v) : k ∈ ks ∧ v = t k := by
  by_cases q : k ∈ ks
  · rw [lk_in q] at h; exact ⟨q, (Option.some.inj h).symm⟩
  · rw [lk_out q] at h; cases h
theorem tidyL_all {B : Nat} : ∀ {l : List S25}, (∀ v, v ∈ l → tidy B v) → tidyL B l
  | [], _ => trivial
  | v :: r, h => by
    simp only [tidyL]
    exact ⟨h v (List.mem_cons_self ..), tidyL_all fun u hu => h u (List.mem_cons_of_mem _ hu)⟩

set_option maxRecDepth 100000 in
theorem merge_cur (w : World) (c v o : Value) (P : World → World → Prop) (b : Nat) (hv : v = pv b) (HC : Calls Tryd.prog 50 #[c, o] w (ErrPost w))
    (HA : ∀ w1, Below w.heap.size w w1 → Calls Tryd.prog 51 #[v, o] w1 (fun e w' => e = .returned (.tuple #[]) ∧ P w1 w')) :
    Calls Tryd.prog 41 #[c, v, .bool false, o] w (fun e w' => e = .returned v ∧ ∃ w1, Below w.heap.size w w1 ∧ P w1 w') := by
  subst hv
  have HX := Lib.hid HA
  have HCC := Lib.hid HC
  clear HA HC
  go_enter Tryd.func41, Tryd.ntmps41
  go_wp2_with (first | (go_at_call 50; refine HCC.out.mono ?_; rintro e w1 ⟨x, rfl, hb1⟩; have HB := Lib.hid hb1; clear hb1) | (go_at_call 51; refine (HX.out _ HB.out).mono ?_; rintro e w2 ⟨rfl, hp⟩; have HP := Lib.hid hp; clear hp) | fail)
  go_ret
  exact ⟨rfl, _, HB.out, HP.out⟩

set_option maxRecDepth 100000 in
theorem merge_val (w : World) (c v o : Value) (b b2 dd : Nat) (hc : c = pv b2) (hv : v = pv b) (HC : Calls Tryd.prog 50 #[c, o] w (fun e w' => e = .returned (.tuple #[pv dd, .nilIface]) ∧ w = w'))
    (HA : Calls Tryd.prog 50 #[v, o] w (ErrPost w)) :
    Calls Tryd.prog 41 #[c, v, .bool false, o] w (fun e w' => e = .returned v ∧ Below w.heap.size w w') := by
  subst hc
  subst hv
  have HX := Lib.hid HA
  have HCC := Lib.hid HC
  clear HA HC
  go_enter Tryd.func41, Tryd.ntmps41
  go_wp2_with (first | (go_at_call 50; first | ((with_reducible refine HCC.out.mono ?_); rintro e w1 ⟨rfl, rfl⟩) | ((with_reducible refine HX.out.mono ?_); rintro e w1 ⟨x, rfl, hb1⟩; have HB := Lib.hid hb1; clear hb1)) | fail)
  go_ret
  exact ⟨rfl, HB.out⟩

set_option maxRecDepth 100000 in
theorem merge_obj (w : World) (c v o : Value) (b b2 dd e : Nat) (P : World → Prop) (hc : c = pv b2) (hv : v = pv b) (HC : Calls Tryd.prog 50 #[c, o] w (fun e w' => e = .returned (.tuple #[pv dd, .nilIface]) ∧ w = w'))
    (HA : Calls Tryd.prog 50 #[v, o] w (fun en w' => en = .returned (.tuple #[pv e, .nilIface]) ∧ w = w'))
    (HM : Calls Tryd.prog 52 #[pv dd, pv e, .bool false, o] w (fun e w' => e = .returned (.tuple #[]) ∧ P w')) :
    Calls Tryd.prog 41 #[c, v, .bool false, o] w (fun e w' => e = .returned c ∧ P w') := by
  subst hc
  subst hv
  have HX := Lib.hid HA
  have HCC := Lib.hid HC
  have HMM := Lib.hid HM
  clear HA HC HM
  go_enter Tryd.func41, Tryd.ntmps41
  go_wp2_with (first | (go_at_call 50; first | ((with_reducible refine HCC.out.mono ?_); rintro e w1 ⟨rfl, rfl⟩) | ((with_reducible refine HX.out.mono ?_); rintro e w1 ⟨rfl, rfl⟩)) | (go_at_call 52; refine HMM.out.mono ?_; rintro e w2 ⟨rfl, hp⟩; have HP := Lib.hid hp; clear hp) | fail)
  go_ret
  exact ⟨rfl, HP.out⟩

/-- What no object is. -/
theorem intoDoc_not (B : Nat) {w : World} {v : Value} {T : S25} {S : Nat → Prop} (o : Value) (h : LN false w v T S) (h0 : T.f0 ≠ 0) (h6 : T.f0 ≠ 6) (hG : GLp B w) : Calls Tryd.prog 50 #[v, o] w (ErrPost w) := by
  cases h with
  | nul => simp at h0
  | raw0 b r _ hz => cases hz
  | leaf b r _ k t bs hb h1 h2 =>
    obtain ⟨c, l, rfl, q1, q2⟩ := leaf_head hb
    exact intoDoc_no B w S b r _ _ o 0 (by decide) c l h1 h2 q1 q2 hG
  | arr b r a _ col vs ts h1 h2 h3 h4 h5 => exact intoDoc_no B w _ b r _ _ o 2 (by decide) 91 [93] h1 h2 (by decide) (space_no (by decide) (by decide)) hG
  | obj => simp at h6

open Classical in
/-- The colours of two objects. -/
theorem colours {n : Nat} {Od Op Sc Sv : Nat → Prop} {cd cp : Nat → Option ByteArray} (h1 : ∀ i, Od i → (Sc i ∧ cd i = none) ∧ i < n) (h2 : ∀ i, Op i → (Sv i ∧ cp i = none) ∧ i < n) (hx : ∀ i, Sc i → ¬ Sv i) :
    ∃ c0 : Nat → Own, (∀ i, Od i → c0 i = .d) ∧ (∀ i, Op i → c0 i = .p) ∧ (∀ i k, Sc i → cd i = some k → c0 i = .dk k) ∧ (∀ i k, Sv i → cp i = some k → c0 i = .pk k) ∧ (∀ i, c0 i ≠ .x → Sc i ∨ Sv i) ∧ ∀ i, Sc i → cd i = none → ¬ Od i → c0 i = .x := by
  refine ⟨fun i => if Od i then .d else if Op i then .p else if Sc i then (match cd i with | some k => .dk k | none => .x) else if Sv i then (match cp i with | some k => .pk k | none => .x) else .x, fun i q => if_pos q, fun i q => ?_, fun i k q q2 => ?_, fun i k q q2 => ?_, fun i q => ?_, fun i q q2 q3 => ?_⟩
  · simp only [if_neg (show ¬ Od i from fun q2 => hx i (h1 i q2).1.1 (h2 i q).1.1), if_pos q]
  · simp only [if_neg (show ¬ Od i from fun q3 => by rw [(h1 i q3).1.2] at q2; cases q2), if_neg (show ¬ Op i from fun q3 => hx i q (h2 i q3).1.1), if_pos q, q2]
  · simp only [if_neg (show ¬ Od i from fun q3 => hx i (h1 i q3).1.1 q), if_neg (show ¬ Op i from fun q3 => by rw [(h2 i q3).1.2] at q2; cases q2), if_neg (show ¬ Sc i from fun q3 => hx i q3 q), if_pos q, q2]
  · by_cases a : Od i
    · exact .inl (h1 i a).1.1
    · by_cases b : Op i
      · exact .inr (h2 i b).1.1
      · by_cases a2 : Sc i
        · exact .inl a2
        · by_cases b2 : Sv i
          · exact .inr b2
          · exact absurd (by simp only [if_neg a, if_neg b, if_neg a2, if_neg b2]) q
  · simp only [if_neg q3, if_neg (show ¬ Op i from fun q4 => hx i q (h2 i q4).1.1), if_pos q, q2]

theorem merge_tree {L1 L2 : Nat} {w w' : World} {d m : Nat} {kd kp kd' : List ByteArray} {td tp td' : ByteArray → S25} {fd' : ByteArray → Value} {c0 c : Nat → Own} (h : MDone w d m (L1 + L2) kd kp td tp c0 kd' fd' td' c w') (hn : kd'.Nodup) :
    MergeTo ⟨6, ByteArray.empty, kd, kd.map td⟩ ⟨6, ByteArray.empty, kp, kp.map tp⟩ ⟨6, ByteArray.empty, kd', kd'.map td'⟩ := by
  refine .obj td' rfl rfl rfl rfl hn (by simp) (fun k hk => ?_) (fun k v hk h0 => ?_) (fun k v hk h0 hc => ?_) (fun k v c hk h0 hc hc0 => ?_) (fun k v c hk h0 hc hc0 => ?_)
  · have hnot : k ∉ kp := fun q => by rw [lk_in q] at hk; cases hk
    obtain ⟨q1, q2⟩ := h.rest k hnot
    by_cases q : k ∈ kd
    · rw [lk_in q, lk_in (q1.2 q), q2]
    · rw [lk_out q, lk_out (fun q3 => q (q1.1 q3))]
  · obtain ⟨q, rfl⟩ := lk_some hk
    exact lk_out ((h.done k q).1 h0)
  · obtain ⟨q, rfl⟩ := lk_some hk
    obtain ⟨q1, q2, q3⟩ := (h.done k q).2 h0
    rw [lk_in q1, q2 (fun q4 => hc _ (lk_in q4))]
  · obtain ⟨q, rfl⟩ := lk_some hk
    obtain ⟨q4, rfl⟩ := lk_some hc
    exact lk_in ((h.done k q).2 h0).1
  · obtain ⟨q, rfl⟩ := lk_some hk
    obtain ⟨q4, rfl⟩ := lk_some hc
    exact ((h.done k q).2 h0).2.2 q4 hc0

theorem merge_any (B L1 L2 : Nat) (hL : L1 + L2 ≤ 1099511627776) : ∀ (n : Nat) (p : S25) (v : Value), SizeOf.sizeOf p ≤ n → tidy L2 p → MergeOk B L1 (L1 + L2) v p
  | 0, p, v, hm, _ => by cases p; simp at hm
  | n + 1, p, v, hm, htp => by
    intro W c d Sc Sv o htd hc hv d0 p0 hx hG hS ho hcell
    obtain ⟨b, rfl⟩ := hv.some p0
    obtain ⟨bc, rfl⟩ := hc.some d0
    by_cases d6 : d.f0 = 6
    · by_cases p6 : p.f0 = 6
      · cases hc with
        | raw0 _ _ _ hz => cases hz
        | leaf _ _ _ k t bs hb => rcases leafB_kind hb with rfl | rfl | rfl | rfl <;> simp at d6
        | arr => simp at d6
        | obj _ rd dd m _ cd kd fd td nd rwd docd kidd =>
        cases hv with
        | raw0 _ _ _ hz => cases hz
        | leaf _ _ _ k t bs hb => rcases leafB_kind hb with rfl | rfl | rfl | rfl <;> simp at p6
        | arr => simp at p6
        | obj _ rp e mp _ cp kp fp tp np rwp docp kidp =>
        obtain ⟨Od, hd1, hd2, hd3⟩ := docd.bound.odd
        obtain ⟨Op, hp1, hp2, hp3⟩ := docp.bound.odd
        obtain ⟨c0, k1, k2, k3, k4, k5, k6⟩ := colours hd2 hp2 hx
        simp only [tidy] at htd htp
        obtain ⟨-, -, td1, td2, td3, td4⟩ := htd
        obtain ⟨-, -, tp1, tp2, tp3, tp4⟩ := htp
        have hob : c0 o = .x := Classical.byContradiction fun q => (hS o (k5 o q)).2 rfl
        have hA : MAsk B W o dd m e mp L1 L2 kd kp fd fp td tp c0 := ⟨hG, ⟨ho, hob, hcell⟩, fun i q => (hS i (k5 i q)).1, hd1.mono k1, hp1.mono k2, fun k hk => (kidd k hk).mono fun i q => k3 i k q.1 q.2, fun k hk => (kidp k hk).mono fun i q => k4 i k q.1 q.2, fun k hk => tidyL_get td4 (List.mem_map.2 ⟨k, hk, rfl⟩), fun k hk => tidyL_get tp4 (List.mem_map.2 ⟨k, hk, rfl⟩), td1, tp1, hL⟩
        refine (merge_obj W (pv bc) (pv b) (pv o) b bc dd e (fun w' => Only (fun i => c0 i ≠ .x) W w' ∧ ∃ kd' fd' td' c, MDone W dd m (L1 + L2) kd kp td tp c0 kd' fd' td' c w') rfl rfl (intoDoc_yes W _ bc rd dd _ _ nd) (intoDoc_yes W _ b rp e _ _ np) ((mergeDocs_any B W o dd m e mp L1 L2 kd kp fd fp td tp c0 hA (fun k hk => ?_)).mono ?_)).mono ?_
        · have hmem : tp k ∈ kp.map tp := List.mem_map.2 ⟨k, hk, rfl⟩
          have hs := List.sizeOf_lt_of_mem hmem
          exact merge_any B L1 L2 hL n (tp k) (fp k) (by simp at hm; omega) (tidyL_get tp4 hmem)
        · rintro en w' ⟨rfl, q⟩
          exact ⟨rfl, q⟩
        · rintro en w' ⟨rfl, hon, kd', fd', td', c, hD⟩
          obtain ⟨_, _, _, _, _, _, _, _, _, hnd, _⟩ := hD.doc
          have hin : ∀ i, i < w'.heap.size → c i ≠ .x → (Sc i ∨ Sv i) ∨ New W i := fun i _ q => by
            by_cases hi : i < W.heap.size
            · exact .inl (k5 i fun q2 => q (hD.keepx i hi q2))
            · exact .inr (by unfold New; omega)
          have hne : ∀ i, i < W.heap.size → (Sc i ∧ cd i = none) → ∀ cells t fr, W.heap[i]? = some (.cells cells t fr) → (t = 80 ∨ t = 5 ∨ t = 84) → c0 i = .x := by
            intro i hi q cells t fr e1 ht
            refine k6 i q.1 q.2 fun q3 => ?_
            rcases hd3 i q3 with ⟨cs, t', f', e', n1, n2, n3⟩ | ⟨es, c, e'⟩
            · rw [e1] at e'
              simp only [Option.some.injEq, Obj.cells.injEq] at e'
              obtain ⟨-, rfl, -⟩ := e'
              rcases ht with h | h | h
              · exact n1 h
              · exact n2 h
              · exact n3 h
            · rw [e1] at e'; cases e'
          refine ⟨bc, ⟨6, ByteArray.empty, kd', kd'.map td'⟩, rfl, merge_tree hD hnd, ?_, ?_, hon.mono fun i _ q => k5 i q⟩
          · simp only [tidy]
            refine ⟨.inr (.inr (.inr ⟨trivial, trivial, hnd, by simp⟩)), Nat.zero_le _, Nat.le_trans hD.len (by omega), by rw [List.length_map]; exact Nat.le_trans hD.len (by omega), fun x hx => ?_, tidyL_all fun v hv => ?_⟩
            · rcases hD.sub x hx with q | q
              · have := td3 x q; omega
              · have := tp3 x q; omega
            · obtain ⟨k, hk, rfl⟩ := List.mem_map.1 hv
              exact hD.tdy k hk
          · have hstay : ∀ i, i < W.heap.size → c0 i = .x → w'.heap[i]? = W.heap[i]? := fun i hi q => hon.block i hi (by rw [q]; simp)
            have hcx : ∀ i, i < W.heap.size → c0 i = .x → (match c i with | .dk k => some k | _ => none) = none := fun i hi q => by rw [hD.keepx i hi q]
            refine .obj bc rd dd m _ (fun i => match c i with | .dk k => some k | _ => none) kd' fd' td' ?_ ?_ (hD.doc.bound.mono fun i q => ⟨hin i q.2 (by rw [q.1]; simp), by rw [q.1]⟩) (fun k hk => (hD.dks k hk).bound.mono fun i q => ⟨hin i q.2 (by rw [q.1]; simp), by rw [q.1]⟩)
            · have h0 := hne bc nd.lt nd.1 _ _ _ nd.2 (.inl rfl)
              exact ⟨⟨.inl (.inl nd.1.1), hcx _ nd.lt h0⟩, (hstay _ nd.lt h0).trans nd.2⟩
            · obtain ⟨x, cap, r1, r2, r3, r4, r5, ⟨cells, fr, r6⟩, r7⟩ := rwd
              have lr : rd < W.heap.size := (Array.getElem?_eq_some_iff.1 r3).1
              have lc : x < W.heap.size := (Array.getElem?_eq_some_iff.1 r6).1
              have h0 := hne rd lr r1 _ _ _ r3 (.inr (.inr rfl))
              have h1 := hne x lc r2 _ _ _ r6 (.inr (.inl rfl))
              exact ⟨x, cap, ⟨.inl (.inl r1.1), hcx _ lr h0⟩, ⟨.inl (.inl r2.1), hcx _ lc h1⟩, (hstay _ lr h0).trans r3, r4, r5, ⟨cells, fr, (hstay _ lc h1).trans r6⟩, fun j b hj => (World.cell?_of_block (a := ⟨x, j, none⟩) (hstay _ lc h1)).trans (r7 j b hj)⟩
      · have hyes : ∃ dd, Calls Tryd.prog 50 #[pv bc, pv o] W (fun e w' => e = .returned (.tuple #[pv dd, .nilIface]) ∧ W = w') := by
          cases hc with
          | raw0 _ _ _ hz => cases hz
          | leaf _ _ _ k t bs hb => rcases leafB_kind hb with rfl | rfl | rfl | rfl <;> simp at d6
          | arr => simp at d6
          | obj _ rd dd m _ cd kd fd td nd rwd docd kidd => exact ⟨dd, intoDoc_yes W _ bc rd dd _ _ nd⟩
        obtain ⟨dd, hyes⟩ := hyes
        refine (merge_val W (pv bc) (pv b) (pv o) b bc dd rfl rfl hyes (intoDoc_not B (pv o) hv p0 p6 hG)).mono ?_
        rintro e w' ⟨rfl, hb⟩
        exact ⟨b, p, rfl, .val d6 p6, tidy_mono (Nat.le_add_left _ _) _ htp, hv.step (O := fun _ => False) (Only.of_below hb) (fun _ _ _ q => q) (fun _ _ q => .inl (.inr q)), Only.of_below hb⟩
    · refine (merge_cur W (pv bc) (pv b) (pv o) (fun w1 w' => LN false w' (pv b) (prune p) (fun i => Sv i ∨ New w1 i) ∧ Only Sv w1 w') b rfl (intoDoc_not B (pv o) hc d0 d6 hG) (fun w1 hb => ?_)).mono ?_
      · exact prune_any B (SizeOf.sizeOf p) p (pv b) (Nat.le_refl _) (lim_mono (by omega) htp) w1 Sv (some ⟨o, 0, none⟩) (hv.step (O := fun _ => False) (Only.of_below hb) (fun _ _ _ q => q) (fun _ _ q => q)) p0 (hG.below hb) (fun i q => (hS i (.inr q)).1)
      · rintro e w' ⟨rfl, w1, hb, h1, h2⟩
        have s1 := hb.size
        exact ⟨b, prune p, rfl, .cur d6, tidy_mono (Nat.le_add_left _ _) _ (tidy_prune _ htp), h1.mono (fun i q => q.imp .inr (fun q => by unfold New at *; omega)), (Only.of_below hb : Only (fun i => Sc i ∨ Sv i) W w1).trans h2 (fun _ _ q => q) (fun _ _ q => .inr q)⟩
end Go.Proofs.YtdjogkfgegopfaaDoor
namespace Go.Proofs.YtdjogkfgegopfaaDoor
open Go.RowKit Go.Maps Go.Proofs.YtdjogkfgegopfaaDoor.MFnPaMergeAgain Go.Proofs.YtdjogkfgegopfaaDoor.Pure Go.Proofs.YtdjogkfgegopfaaDoorW.PrintWords Go.Proofs.YtdjogkfgegopfaaDoorW.PrintLast
set_option linter.unusedVariables false
set_option linter.unusedSimpArgs false

abbrev nullT : S25 := ⟨0, ByteArray.empty, [], []⟩
/-- A whole document: a null is a node of its own. -/
def Top (w : World) (v : Value) (T : S25) (S : Nat → Prop) : Prop := (LN false w v T S ∧ T.f0 ≠ 0) ∨ (T = nullT ∧ ∃ b r, v = pv b ∧ NodeAt w S b r (.pointer none) (.pointer none) 0 ∧ RawAt w S r nullB)
theorem LN.up {w : World} {v : Value} {T : S25} {S : Nat → Prop} (h : LN false w v T S) : LN true w v T S := by
  induction h with
  | nul => exact .nul _
  | raw0 b r S hz h1 h2 => cases hz
  | leaf b r S k t bs h0 h1 h2 => exact .leaf b r S k t bs h0 h1 h2
  | arr b r a S col vs ts h1 h2 h3 h4 h5 ih => exact .arr b r a S col vs ts h1 h2 h3 h4 ih
  | obj b r d m S col ks f tr h1 h2 h3 h5 ih => exact .obj b r d m S col ks f tr h1 h2 h3 ih
theorem Top.ln {w : World} {v : Value} {T : S25} {S : Nat → Prop} (h : Top w v T S) : LN true w v T S := by
  rcases h with ⟨h, _⟩ | ⟨rfl, b, r, rfl, h1, h2⟩
  · exact h.up
  · exact .raw0 b r S rfl h1 h2
theorem Top.step {w w1 : World} {v : Value} {T : S25} {S S' O : Nat → Prop} (h : Top w v T S) (ho : Only O w w1) (hn : ∀ i, i < w.heap.size → S i → ¬ O i) (hS : ∀ i, i < w.heap.size → S i → S' i) : Top w1 v T S' := by
  rcases h with ⟨h, q⟩ | ⟨rfl, b, r, rfl, h1, h2⟩
  · exact .inl ⟨h.step ho hn hS, q⟩
  · exact .inr ⟨rfl, b, r, rfl, h1.step ho hn hS, h2.step ho hn hS⟩
theorem Top.pv {w : World} {v : Value} {T : S25} {S : Nat → Prop} (h : Top w v T S) : ∃ b, v = pv b := by
  rcases h with ⟨h, q⟩ | ⟨rfl, b, r, rfl, h1, h2⟩
  · exact h.some q
  · exact ⟨b, rfl⟩

set_option maxRecDepth 100000 in
theorem zzNull_any (w : World) : Calls Tryd.prog 53 #[] w (fun e w' => ∃ b r, e = .returned (pv b) ∧ NodeAt w' (New w) b r (.pointer none) (.pointer none) 0 ∧ RawAt w' (New w) r nullB ∧ Below w.heap.size w w') := by
  have HC := Lib.hid (zzRaw_any ⟨#[110, 117, 108, 108]⟩ w (by decide))
  have HN := Lib.hid (fun W => newNode_any (some ⟨w.heap.size + 1, 0, none⟩) W)
  go_enter Tryd.func53, Tryd.ntmps53
  go_wp2_with (first | (go_at_call 66; refine HC.out.mono ?_; rintro e w1 ⟨rfl, hz, hr, hb⟩; have HR := Lib.hid (And.intro hz (And.intro hr hb)); clear hz hr hb) | (go_at_call 65; refine (HN.out _).mono ?_; rintro e w2 ⟨rfl, rfl⟩) | fail)
  go_ret
  obtain ⟨hz, hr, hb⟩ := HR.out
  refine ⟨_, _, rfl, ⟨by unfold New; omega, heap_alloc_new _ _⟩, ?_, hb.alloc (by omega) _⟩
  exact (hr.move (fun i hi _ => Below.heap_alloc _ _ _ hi) (by simp)).mono (fun i hi => hi)

def ValPost (w : World) (T : S25) : Ending → World → Prop := fun e w' => ∃ v, e = .returned v ∧ Top w' v T (New w) ∧ Below w.heap.size w w'
set_option maxRecDepth 100000 in
theorem value_null (w : World) (t : ByteArray) (A2 A3 : Option Addr) (n2 n3 c2 c3 : Nat) (o : Option Addr) :
    Calls Tryd.prog 42 #[.agg #[.int .i64 0, .string t, .slice A2 n2 c2, .slice A3 n3 c3], .pointer o] w (ValPost w nullT) := by
  have HC := Lib.hid (zzNull_any (w.alloc (.cells #[.int .i64 0, .string t, .slice A2 n2 c2, .slice A3 n3 c3] 42)))
  have B0 := Lib.hid (heap_alloc_new w (.cells #[.int .i64 0, .string t, .slice A2 n2 c2, .slice A3 n3 c3] 42))
  go_enter Tryd.func42, Tryd.ntmps42
  go_wp2_with (first | (go_at_call 53; refine HC.out.mono ?_; rintro e w1 ⟨b, r, rfl, h1, h2, h3⟩; have HR := Lib.hid (And.intro h1 (And.intro h2 h3)); clear h1 h2 h3) | fail)
  go_ret
  obtain ⟨h1, h2, h3⟩ := HR.out
  have hb : Below w.heap.size w (w.alloc (.cells #[.int .i64 0, .string t, .slice A2 n2 c2, .slice A3 n3 c3] 42)) := (Below.refl _ _).alloc (Nat.le_refl _) _
  have hs := hb.size
  exact ⟨_, rfl, .inr ⟨rfl, _, _, rfl, ⟨by have := h1.1; unfold New at *; omega, h1.2⟩, h2.mono (fun i q => by unfold New at *; omega)⟩, hb.trans (h3.mono hs)⟩

set_option maxRecDepth 100000 in
theorem value_any (T : S25) (cs : List Value) (w : World) (o : Option Addr) (ht : tidy 1099511627776 T) (hT : TR w (All w) T cs) : Calls Tryd.prog 42 #[.agg cs.toArray, .pointer o] w (ValPost w T) := by
  obtain ⟨A2, A3, c2, c3, rfl, l2, l3⟩ := id hT.cells
  obtain ⟨k, t, ks, vs⟩ := T
  by_cases h0 : k = 0
  · subst h0
    have e : t = ByteArray.empty ∧ ks = [] ∧ vs = [] := by
      simp only [tidy] at ht
      rcases ht.1 with ⟨_, q⟩ | ⟨q, _⟩ | ⟨q, _⟩ | ⟨q, _⟩
      · exact q
      · obtain ⟨bs, hb⟩ := Option.isSome_iff_exists.1 q
        rcases leafB_kind hb with h | h | h | h <;> cases h
      · cases q
      · cases q
    obtain ⟨rfl, rfl, rfl⟩ := e
    exact value_null w _ A2 A3 _ _ c2 c3 o
  · have hb : Below w.heap.size w (w.alloc (.cells #[.int .i64 k, .string t, .slice A2 ks.length c2, .slice A3 vs.length c3] 42)) := (Below.refl _ _).alloc (Nat.le_refl _) _
    have HB := Lib.hid hb
    have HC := Lib.hid (node_any (SizeOf.sizeOf (⟨k, t, ks, vs⟩ : S25)) ⟨k, t, ks, vs⟩ _ (w.alloc (.cells #[.int .i64 k, .string t, .slice A2 ks.length c2, .slice A3 vs.length c3] 42)) o (Nat.le_refl _) ht (hT.below' hb))
    have hk0 : (k == 0) = false := by simpa using h0
    have HK := Lib.hid h0
    clear hb ht hT h0
    obtain ⟨n2, hn2⟩ : ∃ n, ks.length = n := ⟨_, rfl⟩
    obtain ⟨n3, hn3⟩ : ∃ n, vs.length = n := ⟨_, rfl⟩
    simp only [hn2, hn3] at HB HC l2 l3 ⊢
    go_enter Tryd.func42, Tryd.ntmps42
    go_wp2_with (first | (go_at_call 54; refine HC.out.mono ?_; rintro e w1 ⟨v, rfl, h1, h2⟩; obtain ⟨b, hvb⟩ := h1.some HK.out; subst hvb; have HR := Lib.hid (And.intro h1 h2); clear h1 h2) | fail)
    go_ret
    obtain ⟨h1, h2⟩ := HR.out
    have hs := HB.out.size
    exact ⟨_, rfl, .inl ⟨h1.mono (fun i q => by unfold New at *; omega), HK.out⟩, HB.out.trans (h2.mono hs)⟩

/-- What merge does at what value gives. -/
def TopPost (w : World) (d p : S25) (L : Nat) (Sc Sv : Nat → Prop) : Ending → World → Prop := fun e w' => ∃ r R, e = .returned (pv r) ∧ MergeTo d p R ∧ tidy L R ∧ Top w' (pv r) R (fun i => (Sc i ∨ Sv i) ∨ New w i) ∧ Only (fun i => Sc i ∨ Sv i) w w'
theorem mergeTop_any (B L1 L2 : Nat) (hL : L1 + L2 ≤ 1099511627776) (p d : S25) (v c : Value) (W : World) (Sc Sv : Nat → Prop) (o : Nat) (htd : tidy L1 d) (htp : tidy L2 p) (hc : Top W c d Sc) (hv : Top W v p Sv) (hx : ∀ i, Sc i → ¬ Sv i) (hG : GLp B W) (hS : ∀ i, Sc i ∨ Sv i → B ≤ i ∧ i ≠ o) (ho : o < W.heap.size) (hcell : W.cell? ⟨o, 2, none⟩ = some (.bool false)) :
    Calls Tryd.prog 41 #[c, v, .bool false, pv o] W (TopPost W d p (L1 + L2) Sc Sv) := by
  obtain ⟨b, rfl⟩ := hv.pv
  obtain ⟨bc, rfl⟩ := hc.pv
  have hnull : ∀ (b r : Nat) (S : Nat → Prop) W', NodeAt W' S b r (.pointer none) (.pointer none) 0 → RawAt W' S r nullB → GLp B W' → Calls Tryd.prog 50 #[pv b, pv o] W' (ErrPost W') := fun b r S W' h1 h2 hG =>
    intoDoc_no B W' S b r _ _ (pv o) 0 (by decide) 110 [117, 108, 108] h1 h2 (by decide) (space_no (by decide) (by decide)) hG
  by_cases d6 : d.f0 = 6
  · have hc' : LN false W (pv bc) d Sc ∧ d.f0 ≠ 0 := by
      rcases hc with h | ⟨rfl, _⟩
      · exact h
      · simp at d6
    rcases hv with ⟨hv, p0⟩ | ⟨rfl, b', r, hb, h1, h2⟩
    · refine (merge_any B L1 L2 hL _ p (pv b) (Nat.le_refl _) htp W (pv bc) d Sc Sv o htd hc'.1 hv hc'.2 p0 hx hG hS ho hcell).mono ?_
      rintro e w' ⟨r, R, rfl, q1, q2, q3, q4⟩
      have : R.f0 ≠ 0 := merge_f0 q1 p0
      exact ⟨r, R, rfl, q1, q2, .inl ⟨q3, this⟩, q4⟩
    · cases hb
      have hyes : ∃ dd, Calls Tryd.prog 50 #[pv bc, pv o] W (fun e w' => e = .returned (.tuple #[pv dd, .nilIface]) ∧ W = w') := by
        obtain ⟨hc1, -⟩ := hc'
        cases hc1 with
        | raw0 _ _ _ hz => cases hz
        | leaf _ _ _ k t bs hb => rcases leafB_kind hb with rfl | rfl | rfl | rfl <;> simp at d6
        | arr => simp at d6
        | obj _ rd dd m _ cd kd fd td nd rwd docd kidd => exact ⟨dd, intoDoc_yes W _ bc rd dd _ _ nd⟩
      obtain ⟨dd, hyes⟩ := hyes
      refine (merge_val W (pv bc) (pv b) (pv o) b bc dd rfl rfl hyes (hnull b r Sv W h1 h2 hG)).mono ?_
      rintro e w' ⟨rfl, hb⟩
      exact ⟨b, nullT, rfl, .val d6 (by decide), tidy_mono (Nat.le_add_left _ _) _ htp, Top.step (w := W) (v := Go.Proofs.YtdjogkfgegopfaaDoor.pv b) (T := nullT) (S := Sv) (O := fun _ => False) (Or.inr ⟨rfl, b, r, rfl, h1, h2⟩) (Only.of_below hb) (fun _ _ _ q => q) (fun _ _ q => .inl (.inr q)), Only.of_below hb⟩
  · have hno : Calls Tryd.prog 50 #[pv bc, pv o] W (ErrPost W) := by
      rcases hc with ⟨h, d0⟩ | ⟨rfl, b', r, hb, h1, h2⟩
      · exact intoDoc_not B (pv o) h d0 d6 hG
      · cases hb; exact hnull bc r Sc W h1 h2 hG
    rcases hv with ⟨hv, p0⟩ | ⟨rfl, b', r, hb, h1, h2⟩
    · refine (merge_cur W (pv bc) (pv b) (pv o) (fun w1 w' => LN false w' (pv b) (prune p) (fun i => Sv i ∨ New w1 i) ∧ Only Sv w1 w') b rfl hno (fun w1 hb => ?_)).mono ?_
      · exact prune_any B (SizeOf.sizeOf p) p (pv b) (Nat.le_refl _) (lim_mono (by omega) htp) w1 Sv (some ⟨o, 0, none⟩) (hv.step (O := fun _ => False) (Only.of_below hb) (fun _ _ _ q => q) (fun _ _ q => q)) p0 (hG.below hb) (fun i q => (hS i (.inr q)).1)
      · rintro e w' ⟨rfl, w1, hb, h1, h2⟩
        have s1 := hb.size
        exact ⟨b, prune p, rfl, .cur d6, tidy_mono (Nat.le_add_left _ _) _ (tidy_prune _ htp), .inl ⟨h1.mono (fun i q => q.imp .inr (fun q => by unfold New at *; omega)), by rw [prune_f0]; exact p0⟩, (Only.of_below hb : Only (fun i => Sc i ∨ Sv i) W w1).trans h2 (fun _ _ q => q) (fun _ _ q => .inr q)⟩
    · cases hb
      refine (merge_cur W (pv bc) (pv b) (pv o) (fun w1 w' => Below w1.heap.size w1 w') b rfl hno (fun w1 hb => ?_)).mono ?_
      · exact pruneNulls_leaf B w1 Sv b r (some ⟨o, 0, none⟩) 110 [117, 108, 108] (h1.step (W := fun _ => False) (Only.of_below hb) (fun _ _ _ q => q) (fun _ _ q => q)) (h2.step (W := fun _ => False) (Only.of_below hb) (fun _ _ _ q => q) (fun _ _ q => q)) (by decide) (space_no (by decide) (by decide)) (hG.below hb)
      · rintro e w' ⟨rfl, w1, hb1, hb2⟩
        have hb := hb1.trans (hb2.mono hb1.size)
        have hp : prune nullT = nullT := prune_leaf (by decide) (by decide)
        exact ⟨b, prune nullT, rfl, .cur d6, by rw [hp]; exact tidy_mono (Nat.le_add_left _ _) _ htp, by rw [hp]; exact Top.step (w := W) (v := Go.Proofs.YtdjogkfgegopfaaDoor.pv b) (T := nullT) (S := Sv) (O := fun _ => False) (Or.inr ⟨rfl, b, r, rfl, h1, h2⟩) (Only.of_below hb) (fun _ _ _ q => q) (fun _ _ q => .inl (.inr q)), Only.of_below hb⟩
end Go.Proofs.YtdjogkfgegopfaaDoor
