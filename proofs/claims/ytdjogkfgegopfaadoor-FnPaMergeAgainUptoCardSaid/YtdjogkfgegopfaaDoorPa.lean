/- Trees of JSON as the laws of json-patch see them (kind, text, names, kids): look-up, prune, merge as a relation told by look-ups, likeness but for the order of names; a merge done twice. Plain Lean, no program. No condition. -/
import Derived.Test.YtdjogkfgegopfaaDoorMFnPaMergeAgain0
import Derived.Test.YtdjogkfgegopfaaDoorMFnPaMergeAgain8
import Derived.Test.YtdjogkfgegopfaaDoorPn0
import Derived.Test.YtdjogkfgegopfaaDoorMFnPaMergeAgain1
import Derived.Test.YtdjogkfgegopfaaDoorMFnPaMergeAgain6
namespace Go.Proofs.YtdjogkfgegopfaaDoor.Pure
open Go.Proofs.YtdjogkfgegopfaaDoor.MFnPaMergeAgain
set_option linter.unusedVariables false

/-- The member of a name, by its first place. -/
def lkL : List ByteArray → List S25 → ByteArray → Option S25
  | a :: ks, v :: vs, k => if a = k then some v else lkL ks vs k
  | _, _, _ => none
def lk (n : S25) (k : ByteArray) : Option S25 := lkL n.f2 n.f3 k

mutual
/-- Members that are null taken out, at any depth. -/
def prune : S25 → S25
  | ⟨k, t, ks, vs⟩ => if k = 6 then ⟨6, t, (pruneM ks vs).1, (pruneM ks vs).2⟩ else if k = 5 then ⟨5, t, ks, pruneL vs⟩ else ⟨k, t, ks, vs⟩
def pruneL : List S25 → List S25
  | [] => []
  | v :: r => prune v :: pruneL r
def pruneM : List ByteArray → List S25 → List ByteArray × List S25
  | a :: ks, v :: vs => if v.f0 = 0 then pruneM ks vs else (a :: (pruneM ks vs).1, prune v :: (pruneM ks vs).2)
  | _, _ => ([], [])
end

mutual
/-- No member of an object at any depth is null. -/
def noNulls : S25 → Bool
  | ⟨k, _, _, vs⟩ => noNullsL (decide (k = 6)) vs
def noNullsL : Bool → List S25 → Bool
  | _, [] => true
  | b, v :: r => !(b && decide (v.f0 = 0)) && noNulls v && noNullsL b r
end
mutual
/-- No array at any depth holds an object with a null member at any depth. -/
def arrFree : S25 → Bool
  | ⟨k, _, _, vs⟩ => arrFreeL (decide (k = 5)) vs
def arrFreeL : Bool → List S25 → Bool
  | _, [] => true
  | b, v :: r => (!b || noNulls v) && arrFree v && arrFreeL b r
end
mutual
/-- As many names as kids in every object, none twice. -/
def well : S25 → Prop
  | ⟨k, _, ks, vs⟩ => (k = 6 → ks.Nodup ∧ ks.length = vs.length) ∧ wellL vs
def wellL : List S25 → Prop
  | [] => True
  | v :: r => well v ∧ wellL r
end

theorem prune_f0 (n : S25) : (prune n).f0 = n.f0 := by
  obtain ⟨k, t, ks, vs⟩ := n
  unfold prune
  split
  · rename_i h; exact h.symm
  · split
    · rename_i h; exact h.symm
    · rfl

theorem prune_leaf {n : S25} (h6 : n.f0 ≠ 6) (h5 : n.f0 ≠ 5) : prune n = n := by
  obtain ⟨k, t, ks, vs⟩ := n
  unfold prune
  rw [if_neg h6, if_neg h5]

mutual
theorem prune_noNulls : ∀ (n : S25), well n → noNulls n = true → prune n = n
  | ⟨k, t, ks, vs⟩, hw, h => by
    unfold prune
    by_cases h6 : k = 6
    · subst h6
      rw [if_pos rfl]
      simp only [noNulls, decide_true] at h
      simp only [well] at hw
      rw [pruneM_noNulls ks vs (hw.1 trivial).2 hw.2 h]
    · rw [if_neg h6]
      by_cases h5 : k = 5
      · subst h5
        rw [if_pos rfl]
        simp only [noNulls] at h
        simp only [well] at hw
        rw [pruneL_noNulls vs hw.2 _ h]
      · rw [if_neg h5]
theorem pruneL_noNulls : ∀ (l : List S25), wellL l → ∀ b, noNullsL b l = true → pruneL l = l
  | [], _, _, _ => rfl
  | v :: r, hw, b, h => by
    simp only [noNullsL, Bool.and_eq_true] at h
    simp only [wellL] at hw
    simp only [pruneL]
    rw [prune_noNulls v hw.1 h.1.2, pruneL_noNulls r hw.2 b h.2]
theorem pruneM_noNulls : ∀ (ks : List ByteArray) (vs : List S25), ks.length = vs.length → wellL vs → noNullsL true vs = true → pruneM ks vs = (ks, vs)
  | [], [], _, _, _ => rfl
  | a :: ks, v :: vs, hl, hw, h => by
    simp only [noNullsL, Bool.and_eq_true, Bool.true_and, Bool.not_eq_true', decide_eq_false_iff_not] at h
    simp only [wellL] at hw
    simp only [pruneM]
    rw [if_neg h.1.1, pruneM_noNulls ks vs (by simpa using hl) hw.2 h.2, prune_noNulls v hw.1 h.1.2]
  | [], _ :: _, hl, _, _ => by simp at hl
  | _ :: _, [], hl, _, _ => by simp at hl
end

theorem noNullsL_of_arr : ∀ (l : List S25), arrFreeL true l = true → noNullsL false l = true
  | [], _ => rfl
  | v :: r, h => by
    simp only [arrFreeL, Bool.and_eq_true, Bool.not_true, Bool.false_or] at h
    simp only [noNullsL, Bool.and_eq_true, Bool.false_and, Bool.not_false, true_and]
    exact ⟨h.1.1, noNullsL_of_arr r h.2⟩

/-- What is no object is pruned to itself, where arrays hold no nulls of objects. -/
theorem prune_nonobj {n : S25} (hw : well n) (ha : arrFree n = true) (h6 : n.f0 ≠ 6) : prune n = n := by
  obtain ⟨k, t, ks, vs⟩ := n
  by_cases h5 : k = 5
  · subst h5
    refine prune_noNulls _ hw ?_
    simp only [noNulls, arrFree, decide_true] at ha ⊢
    rw [show (decide ((5 : Int) = 6)) = false from rfl]
    exact noNullsL_of_arr vs ha
  · exact prune_leaf h6 h5

theorem lk_prune (t : ByteArray) (k : ByteArray) : ∀ (ks : List ByteArray) (vs : List S25), ks.Nodup → lkL (pruneM ks vs).1 (pruneM ks vs).2 k = (lkL ks vs k).bind fun v => if v.f0 = 0 then none else some (prune v)
  | [], _, _ => by simp [pruneM, lkL]
  | _ :: _, [], _ => by simp [pruneM, lkL]
  | a :: ks, v :: vs, hn => by
    have hn2 := List.nodup_cons.1 hn
    simp only [pruneM]
    have ih := lk_prune t k ks vs hn2.2
    have hmiss : a = k → lkL ks vs k = none := by
      rintro rfl
      have : ∀ (ks : List ByteArray) (vs : List S25), a ∉ ks → lkL ks vs a = none := by
        intro ks
        induction ks with
        | nil => intro vs _; simp [lkL]
        | cons b ks ih =>
          intro vs hb
          cases vs with
          | nil => simp [lkL]
          | cons v vs =>
            simp only [lkL]
            rw [if_neg (fun e => hb (by rw [e]; exact List.mem_cons_self)), ih vs (fun h => hb (List.mem_cons_of_mem _ h))]
      exact this ks vs hn2.1
    by_cases h0 : v.f0 = 0
    · rw [if_pos h0, ih]
      simp only [lkL]
      by_cases e : a = k
      · rw [if_pos e, hmiss e]; simp [h0]
      · rw [if_neg e]
    · rw [if_neg h0]
      simp only [lkL]
      by_cases e : a = k
      · rw [if_pos e, if_pos e]; simp [h0]
      · rw [if_neg e, if_neg e, ih]
end Go.Proofs.YtdjogkfgegopfaaDoor.Pure
namespace Go.Proofs.YtdjogkfgegopfaaDoor.Pure
open Go.Proofs.YtdjogkfgegopfaaDoor.MFnPaMergeAgain
set_option linter.unusedVariables false

/-- Alike but for the order of names. -/
inductive Like : S25 → S25 → Prop
  | leaf (a : S25) : a.f0 ≠ 6 → well a → Like a a
  | obj {a b : S25} (g : ByteArray → S25) : a.f0 = 6 → b.f0 = 6 → a.f1 = b.f1 → a.f2.length = a.f3.length → a.f2.length = b.f2.length → a.f3.length = b.f3.length → a.f2.Nodup →
      (∀ k v, lk a k = some v → lk b k = some (g k)) → (∀ k v, lk a k = some v → Like v (g k)) → Like a b

/-- What a merge gives, told by look-ups; the order of names is open. -/
inductive MergeTo : S25 → S25 → S25 → Prop
  | cur {d p : S25} : d.f0 ≠ 6 → MergeTo d p (prune p)
  | val {d p : S25} : d.f0 = 6 → p.f0 ≠ 6 → MergeTo d p p
  | obj {d p r : S25} (g : ByteArray → S25) : d.f0 = 6 → p.f0 = 6 → r.f0 = 6 → r.f1 = ByteArray.empty → r.f2.Nodup → r.f2.length = r.f3.length →
      (∀ k, lk p k = none → lk r k = lk d k) →
      (∀ k v, lk p k = some v → v.f0 = 0 → lk r k = none) →
      (∀ k v, lk p k = some v → v.f0 ≠ 0 → (∀ c, lk d k = some c → c.f0 = 0) → lk r k = some (prune v)) →
      (∀ k v c, lk p k = some v → v.f0 ≠ 0 → lk d k = some c → c.f0 ≠ 0 → lk r k = some (g k)) →
      (∀ k v c, lk p k = some v → v.f0 ≠ 0 → lk d k = some c → c.f0 ≠ 0 → MergeTo c v (g k)) → MergeTo d p r

theorem lkL_mem : ∀ (ks : List ByteArray) (vs : List S25) (k : ByteArray), ks.length = vs.length → (lkL ks vs k = none ↔ k ∉ ks)
  | [], [], _, _ => by simp [lkL]
  | a :: ks, v :: vs, k, h => by
    simp only [lkL, List.mem_cons, not_or]
    by_cases e : a = k
    · rw [if_pos e]; simp [e]
    · rw [if_neg e, lkL_mem ks vs k (by simpa using h)]
      exact ⟨fun h => ⟨fun q => e q.symm, h⟩, fun h => h.2⟩
  | [], _ :: _, _, h => by simp at h
  | _ :: _, [], _, h => by simp at h

theorem same_len {a b : S25} (na : a.f2.Nodup) (nb : b.f2.Nodup) (la : a.f2.length = a.f3.length) (lb : b.f2.length = b.f3.length) (h : ∀ k, lk a k = none ↔ lk b k = none) : a.f2.length = b.f2.length := by
  refine ((List.perm_ext_iff_of_nodup na nb).2 fun k => ?_).length_eq
  have := h k
  unfold lk at this
  rw [lkL_mem _ _ _ la, lkL_mem _ _ _ lb] at this
  exact ⟨fun h => Classical.byContradiction fun q => this.2 q h, fun h => Classical.byContradiction fun q => this.1 q h⟩

theorem like_obj {a b : S25} (a6 : a.f0 = 6) (b6 : b.f0 = 6) (ht : a.f1 = b.f1) (na : a.f2.Nodup) (nb : b.f2.Nodup) (la : a.f2.length = a.f3.length) (lb : b.f2.length = b.f3.length)
    (hn : ∀ k, lk a k = none ↔ lk b k = none) (hs : ∀ k v c, lk a k = some v → lk b k = some c → Like v c) : Like a b := by
  have hl := same_len na nb la lb hn
  refine .obj (fun k => (lk b k).getD (S25.mk 0 ByteArray.empty [] [])) a6 b6 ht la hl (by omega) na ?_ ?_
  · intro k v hv
    cases hb : lk b k with
    | none => rw [(hn k).2 hb] at hv; cases hv
    | some c => rfl
  · intro k v hv
    cases hb : lk b k with
    | none => rw [(hn k).2 hb] at hv; cases hv
    | some c => exact hs k v c hv hb

theorem lkL_well : ∀ (ks : List ByteArray) (vs : List S25) (k : ByteArray) (v : S25), wellL vs → lkL ks vs k = some v → well v ∧ SizeOf.sizeOf v < SizeOf.sizeOf vs
  | a :: ks, u :: vs, k, v, hw, h => by
    simp only [wellL] at hw
    simp only [lkL] at h
    split at h
    · cases h
      exact ⟨hw.1, by simp; omega⟩
    · obtain ⟨h1, h2⟩ := lkL_well ks vs k v hw.2 h
      exact ⟨h1, by simp; omega⟩
  | [], _, _, _, _, h => by simp [lkL] at h
  | _ :: _, [], _, _, _, h => by simp [lkL] at h

theorem well_lk {n v : S25} {k : ByteArray} (hw : well n) (h : lk n k = some v) : well v ∧ SizeOf.sizeOf v < SizeOf.sizeOf n := by
  obtain ⟨a, t, ks, vs⟩ := n
  simp only [well] at hw
  obtain ⟨h1, h2⟩ := lkL_well ks vs k v hw.2 h
  exact ⟨h1, by simp; omega⟩

theorem well_keys {n : S25} (hw : well n) (h6 : n.f0 = 6) : n.f2.Nodup ∧ n.f2.length = n.f3.length := by
  obtain ⟨a, t, ks, vs⟩ := n
  simp only [well] at hw
  exact hw.1 h6

theorem arrFreeL_lk : ∀ (b : Bool) (ks : List ByteArray) (vs : List S25) (k : ByteArray) (v : S25), arrFreeL b vs = true → lkL ks vs k = some v → arrFree v = true
  | b, a :: ks, u :: vs, k, v, ha, h => by
    simp only [arrFreeL, Bool.and_eq_true] at ha
    simp only [lkL] at h
    split at h
    · cases h
      exact ha.1.2
    · exact arrFreeL_lk b ks vs k v ha.2 h
  | _, [], _, _, _, _, h => by simp [lkL] at h
  | _, _ :: _, [], _, _, _, h => by simp [lkL] at h

theorem arrFree_lk {n v : S25} {k : ByteArray} (ha : arrFree n = true) (h : lk n k = some v) : arrFree v = true := by
  obtain ⟨a, t, ks, vs⟩ := n
  simp only [arrFree] at ha
  exact arrFreeL_lk _ ks vs k v ha h

theorem like_refl : ∀ (m : Nat) (n : S25), SizeOf.sizeOf n ≤ m → well n → Like n n
  | 0, n, h, _ => by cases n; simp at h
  | m + 1, n, h, hw => by
    by_cases h6 : n.f0 = 6
    · obtain ⟨h1, h2⟩ := well_keys hw h6
      refine like_obj h6 h6 rfl h1 h1 h2 h2 (fun _ => Iff.rfl) ?_
      intro k v c hv hc
      rw [hv] at hc
      cases hc
      obtain ⟨q1, q2⟩ := well_lk hw hv
      exact like_refl m v (by omega) q1
    · exact .leaf n h6 hw

theorem pruneM_len : ∀ (ks : List ByteArray) (vs : List S25), (pruneM ks vs).1.length = (pruneM ks vs).2.length ∧ (pruneM ks vs).1.Sublist ks
  | [], _ => by simp [pruneM]
  | _ :: _, [] => by simp [pruneM]
  | a :: ks, v :: vs => by
    obtain ⟨h1, h2⟩ := pruneM_len ks vs
    simp only [pruneM]
    split
    · exact ⟨h1, h2.cons a⟩
    · exact ⟨by simp [h1], h2.cons_cons a⟩

theorem prune_obj {n : S25} (h6 : n.f0 = 6) (hn : n.f2.Nodup) : (prune n).f1 = n.f1 ∧ (prune n).f2.Nodup ∧ (prune n).f2.length = (prune n).f3.length ∧ ∀ k, lk (prune n) k = (lk n k).bind fun v => if v.f0 = 0 then none else some (prune v) := by
  obtain ⟨a, t, ks, vs⟩ := n
  obtain rfl : a = 6 := h6
  obtain ⟨h1, h2⟩ := pruneM_len ks vs
  have e : prune (⟨6, t, ks, vs⟩ : S25) = ⟨6, t, (pruneM ks vs).1, (pruneM ks vs).2⟩ := by
    unfold prune
    rw [if_pos rfl]
  rw [e]
  exact ⟨rfl, hn.sublist h2, h1, fun k => by show lkL _ _ k = _; rw [lk_prune t k ks vs hn]; rfl⟩

theorem merge_f0 {c v r : S25} (h : MergeTo c v r) (h0 : v.f0 ≠ 0) : r.f0 ≠ 0 := by
  cases h with
  | cur _ => rw [prune_f0]; exact h0
  | val _ _ => exact h0
  | obj g _ _ h6 => rw [h6]; decide

/-- The texts of objects are empty, at any depth. -/
inductive Blank : S25 → Prop
  | mk (n : S25) : (n.f0 = 6 → n.f1 = ByteArray.empty) → (∀ k v, lk n k = some v → Blank v) → Blank n
theorem Blank.txt {n : S25} (h : Blank n) (h6 : n.f0 = 6) : n.f1 = ByteArray.empty := by cases h with | mk _ a _ => exact a h6
theorem Blank.lk {n v : S25} {k : ByteArray} (h : Blank n) (hv : lk n k = some v) : Blank v := by cases h with | mk _ _ b => exact b k v hv

theorem prune_again : ∀ (m : Nat) (v y : S25), SizeOf.sizeOf v ≤ m → well v → arrFree v = true → Blank v → MergeTo (prune v) v y → Like y (prune v)
  | 0, v, _, h, _, _, _, _ => by cases v; simp at h
  | m + 1, v, y, h, hw, ha, hbl, hm => by
    have hp0 := prune_f0 v
    cases hm with
    | cur h6 =>
      rw [prune_nonobj hw ha (by rwa [hp0] at h6)]
      exact .leaf _ (by rwa [hp0] at h6) hw
    | val h6 h6' => rw [hp0] at h6; exact absurd h6 h6'
    | obj g h6 h6' y6 yt yn yl h0 h1 h2 h3 h4 =>
      obtain ⟨vn, vl⟩ := well_keys hw h6'
      obtain ⟨p1, p2, p3, p4⟩ := prune_obj h6' vn
      refine like_obj y6 h6 (by rw [yt, p1, hbl.txt h6']) yn p2 yl p3 ?_ ?_
      · intro k
        cases hv : lk v k with
        | none => rw [h0 k hv]
        | some u =>
          have hpk := p4 k
          rw [hv] at hpk
          by_cases hu : u.f0 = 0
          · rw [h1 k u hv hu, hpk]
            simp [hu]
          · simp only [Option.bind_some, hu, if_false] at hpk
            rw [h3 k u (prune u) hv hu hpk (by rw [prune_f0]; exact hu), hpk]
            simp
      · intro k a c hka hkc
        cases hv : lk v k with
        | none =>
          have hpk := p4 k
          rw [hv] at hpk
          rw [hpk] at hkc
          cases hkc
        | some u =>
          have hpk := p4 k
          rw [hv] at hpk
          by_cases hu : u.f0 = 0
          · rw [h1 k u hv hu] at hka
            cases hka
          · simp only [Option.bind_some, hu, if_false] at hpk
            have hq : (prune u).f0 ≠ 0 := by rw [prune_f0]; exact hu
            rw [h3 k u (prune u) hv hu hpk hq] at hka
            rw [hpk] at hkc
            cases hka
            cases hkc
            obtain ⟨q1, q2⟩ := well_lk hw hv
            exact prune_again m u _ (by omega) q1 (arrFree_lk ha hv) (hbl.lk hv) (h4 k u (prune u) hv hu hpk hq)

/-- A merge patch merged a second time. -/
theorem again {d p x : S25} (h : MergeTo d p x) : ∀ y, well d → well p → arrFree p = true → Blank p → MergeTo x p y → Like y x := by
  induction h with
  | cur h6 => intro y _ hw ha hb hm; exact prune_again _ _ y (Nat.le_refl _) hw ha hb hm
  | @val d p h6 p6 =>
    intro y _ hw ha hb hm
    cases hm with
    | cur _ => rw [prune_nonobj hw ha p6]; exact .leaf _ p6 hw
    | val q _ => exact absurd q p6
    | obj g q _ => exact absurd q p6
  | @obj d p x g d6 p6 x6 xt xn xl h0 h1 h2 h3 h4 ih =>
    intro y hd hw ha hb hm
    cases hm with
    | cur q => exact absurd x6 q
    | val _ q => exact absurd p6 q
    | obj g' _ _ y6 yt yn yl k0 k1 k2 k3 k4 =>
      refine like_obj y6 x6 (by rw [yt, xt]) yn xn yl xl ?_ ?_
      · intro k
        cases hv : lk p k with
        | none => rw [k0 k hv]
        | some v =>
          by_cases hv0 : v.f0 = 0
          · rw [k1 k v hv hv0, h1 k v hv hv0]
          · by_cases hc : ∃ c, lk d k = some c ∧ c.f0 ≠ 0
            · obtain ⟨c, hc1, hc2⟩ := hc
              have hx := h3 k v c hv hv0 hc1 hc2
              rw [k3 k v _ hv hv0 hx (merge_f0 (h4 k v c hv hv0 hc1 hc2) hv0), hx]
              simp
            · have hx := h2 k v hv hv0 (fun c e => Classical.byContradiction fun q => hc ⟨c, e, q⟩)
              rw [k3 k v _ hv hv0 hx (by rw [prune_f0]; exact hv0), hx]
              simp
      · intro k a c hka hkc
        cases hv : lk p k with
        | none =>
          rw [k0 k hv] at hka
          rw [hka] at hkc
          cases hkc
          rw [h0 k hv] at hka
          exact like_refl _ _ (Nat.le_refl _) (well_lk hd hka).1
        | some v =>
          by_cases hv0 : v.f0 = 0
          · rw [k1 k v hv hv0] at hka; cases hka
          · by_cases hc : ∃ c, lk d k = some c ∧ c.f0 ≠ 0
            · obtain ⟨b, hc1, hc2⟩ := hc
              have hx := h3 k v b hv hv0 hc1 hc2
              have hnz := merge_f0 (h4 k v b hv hv0 hc1 hc2) hv0
              rw [k3 k v _ hv hv0 hx hnz] at hka
              rw [hx] at hkc
              cases hka
              cases hkc
              exact ih k v b hv hv0 hc1 hc2 _ (well_lk hd hc1).1 (well_lk hw hv).1 (arrFree_lk ha hv) (hb.lk hv) (k4 k v _ hv hv0 hx hnz)
            · have hx := h2 k v hv hv0 (fun c e => Classical.byContradiction fun q => hc ⟨c, e, q⟩)
              have hnz : (prune v).f0 ≠ 0 := by rw [prune_f0]; exact hv0
              rw [k3 k v _ hv hv0 hx hnz] at hka
              rw [hx] at hkc
              cases hka
              cases hkc
              exact prune_again _ v _ (Nat.le_refl _) (well_lk hw hv).1 (arrFree_lk ha hv) (hb.lk hv) (k4 k v _ hv hv0 hx hnz)
end Go.Proofs.YtdjogkfgegopfaaDoor.Pure
namespace Go.Proofs.YtdjogkfgegopfaaDoor.Pure
open Go.RowKit Go.Proofs.YtdjogkfgegopfaaDoor.MFnPaMergeAgain Go.Proofs.YtdjogkfgegopfaaDoorW.PrintWords
set_option linter.unusedVariables false

/-- From some fuel on. -/
def Evt {α : Type} (f : Nat → Option α) (r : α) : Prop := ∃ K, ∀ k, K ≤ k → f k = some r

mutual
/-- All lists within are of at most B elements. -/
def lim (B : Nat) : S25 → Prop
  | ⟨_, _, ks, vs⟩ => ks.length ≤ B ∧ vs.length ≤ B ∧ limL B vs
def limL (B : Nat) : List S25 → Prop
  | [] => True
  | v :: r => lim B v ∧ limL B r
end

theorem limL_get {B : Nat} : ∀ {l : List S25} {v : S25}, limL B l → v ∈ l → lim B v
  | u :: r, v, h, hv => by
    simp only [limL] at h
    rcases List.mem_cons.1 hv with rfl | hv
    · exact h.1
    · exact limL_get h.2 hv
theorem wellL_get : ∀ {l : List S25} {v : S25}, wellL l → v ∈ l → well v
  | u :: r, v, h, hv => by
    simp only [wellL] at h
    rcases List.mem_cons.1 hv with rfl | hv
    · exact h.1
    · exact wellL_get h.2 hv
theorem lkL_idx : ∀ (ks : List ByteArray) (vs : List S25) (k : ByteArray) (c : S25), lkL ks vs k = some c → ∃ j, j < ks.length ∧ j < vs.length ∧ ks[j]? = some k ∧ vs[j]? = some c ∧ ∀ i, i < j → ks[i]? ≠ some k
  | a :: ks, v :: vs, k, c, h => by
    simp only [lkL] at h
    by_cases e : a = k
    · rw [if_pos e] at h
      cases h
      exact ⟨0, by simp, by simp, by simp [e], by simp, fun i hi => absurd hi (Nat.not_lt_zero _)⟩
    · rw [if_neg e] at h
      obtain ⟨j, h1, h2, h3, h4, h5⟩ := lkL_idx ks vs k c h
      refine ⟨j + 1, by simp; omega, by simp; omega, by simpa using h3, by simpa using h4, ?_⟩
      intro i hi
      cases i with
      | zero => simpa using e
      | succ i => simpa using h5 i (by omega)
  | [], _, _, _, h => by simp [lkL] at h
  | _ :: _, [], _, _, h => by simp [lkL] at h

theorem toList_inj {a b : ByteArray} (h : a.toList = b.toList) : a = b := by
  rw [ByteArray.toList_eq, ByteArray.toList_eq] at h
  cases a
  cases b
  simpa using h

theorem wrap_step {i n : Nat} (h : i < n) (hn : n ≤ 4611686018427387904) : wrap64 ((i : Int) + 1) = ((i + 1 : Nat) : Int) := by
  simp only [wrap64]
  omega

theorem member_at (ks : List ByteArray) (x : ByteArray) (hb : ks.length ≤ 4611686018427387904) {j : Nat} (hj : j < ks.length) (hk : ks[j]? = some x) (hn : ∀ i, i < j → ks[i]? ≠ some x) :
    ∀ (m i : Nat), i + m = j → Evt (fun k => spec_Member.l0 k x ks (ks.length : Int) (i : Int)) (j : Int)
  | 0, i, h => by
    obtain rfl : i = j := by omega
    refine ⟨1, fun k hk1 => ?_⟩
    obtain ⟨k, rfl⟩ : ∃ q, k = q + 1 := ⟨k - 1, by omega⟩
    have e : rdOf ByteArray.empty ks (i : Int) = x := by simp [rdOf, List.getD_eq_getElem?_getD, hk]
    simp only [spec_Member.l0]
    rw [if_pos (by omega), if_pos (by omega), if_pos (by omega), e, if_pos rfl]
  | m + 1, i, h => by
    obtain ⟨K, hK⟩ := member_at ks x hb hj hk hn m (i + 1) (by omega)
    refine ⟨K + 1, fun k hk1 => ?_⟩
    obtain ⟨k, rfl⟩ : ∃ q, k = q + 1 := ⟨k - 1, by omega⟩
    have hi : i < ks.length := by omega
    have e : ¬ (rdOf ByteArray.empty ks (i : Int)).toList = x.toList := by
      intro q
      have q2 := toList_inj q
      have := hn i (by omega)
      rw [List.getElem?_eq_getElem hi] at this
      simp [rdOf, List.getD_eq_getElem?_getD, List.getElem?_eq_getElem hi] at q2
      exact this (by rw [q2])
    simp only [spec_Member.l0]
    rw [if_pos (by omega), if_pos (by omega), if_pos (by omega), if_neg e, wrap_step hi hb]
    exact hK k (by omega)

def AlikeEv (a b : S25) : Prop := Evt (fun k => spec_Alike.f k a.f0 a.f1 a.f2 a.f3 b.f0 b.f1 b.f2 b.f3) true

/-- The loop over the kids, each of which is alike what it is set against. -/
theorem alike_loop (a b : S25) (hl : a.f3.length = b.f3.length) (hb : a.f3.length ≤ 4611686018427387904) (hkl : a.f0 = 6 → a.f2.length = a.f3.length) (hbk : b.f2.length ≤ 4611686018427387904)
    (hs : ∀ i, i < a.f3.length → if a.f0 = 6 then ∃ x j v c, a.f2[i]? = some x ∧ j < b.f2.length ∧ b.f2[j]? = some x ∧ (∀ q, q < j → b.f2[q]? ≠ some x) ∧ j < b.f3.length ∧ a.f3[i]? = some v ∧ b.f3[j]? = some c ∧ AlikeEv v c
      else ∃ v c, a.f3[i]? = some v ∧ b.f3[i]? = some c ∧ AlikeEv v c) :
    ∀ (m i : Nat), i + m = a.f3.length → Evt (fun k => spec_Alike.l0 k a.f3 (a.f3.length : Int) (i : Int) a.f0 a.f1 a.f2 a.f3 b.f0 b.f1 b.f2 b.f3) true
  | 0, i, h => by
    refine ⟨1, fun k hk1 => ?_⟩
    obtain ⟨k, rfl⟩ : ∃ q, k = q + 1 := ⟨k - 1, by omega⟩
    simp only [spec_Alike.l0]
    rw [if_neg (by omega)]
  | m + 1, i, h => by
    obtain ⟨K, hK⟩ := alike_loop a b hl hb hkl hbk hs m (i + 1) (by omega)
    have hi : i < a.f3.length := by omega
    have h1 := hs i hi
    by_cases h6 : a.f0 = 6
    · rw [if_pos h6] at h1
      obtain ⟨x, j, v, c, e1, e2, e3, e4, e5, e6, e7, ⟨K2, hK2⟩⟩ := h1
      obtain ⟨K3, hK3⟩ := member_at b.f2 x hbk e2 e3 e4 j 0 (by omega)
      have hkl' := hkl h6
      refine ⟨K + K2 + K3 + 1, fun k hk1 => ?_⟩
      obtain ⟨k, rfl⟩ : ∃ q, k = q + 1 := ⟨k - 1, by omega⟩
      have r1 : rdOf ByteArray.empty a.f2 (i : Int) = x := by simp [rdOf, List.getD_eq_getElem?_getD, e1]
      have r2 : rd_T25 a.f3 (i : Int) = v := by simp [rd_T25, List.getD_eq_getElem?_getD, e6]
      have r3 : rd_T25 b.f3 (j : Int) = c := by simp [rd_T25, List.getD_eq_getElem?_getD, e7]
      have m1 : spec_Member.f k b.f0 b.f1 b.f2 b.f3 x = some (j : Int) := hK3 k (by omega)
      simp only [spec_Alike.l0]
      rw [if_pos (by omega), if_pos (by omega), if_pos (by omega), if_pos h6, if_pos (by omega), r1, m1]
      simp only [Option.bind_some]
      rw [if_neg (by omega), if_pos (by omega), if_pos (by omega), r2, r3, show spec_Alike.f k v.f0 v.f1 v.f2 v.f3 c.f0 c.f1 c.f2 c.f3 = some true from hK2 k (by omega)]
      simp only [Option.bind_some, if_true]
      rw [wrap_step hi hb]
      exact hK k (by omega)
    · rw [if_neg h6] at h1
      obtain ⟨v, c, e6, e7, ⟨K2, hK2⟩⟩ := h1
      refine ⟨K + K2 + 1, fun k hk1 => ?_⟩
      obtain ⟨k, rfl⟩ : ∃ q, k = q + 1 := ⟨k - 1, by omega⟩
      have r2 : rd_T25 a.f3 (i : Int) = v := by simp [rd_T25, List.getD_eq_getElem?_getD, e6]
      have r3 : rd_T25 b.f3 (i : Int) = c := by simp [rd_T25, List.getD_eq_getElem?_getD, e7]
      simp only [spec_Alike.l0]
      rw [if_pos (by omega), if_pos (by omega), if_pos (by omega), if_neg h6, if_neg (by omega), if_pos (by omega), r2, r3, show spec_Alike.f k v.f0 v.f1 v.f2 v.f3 c.f0 c.f1 c.f2 c.f3 = some true from hK2 k (by omega)]
      simp only [Option.bind_some, if_true]
      rw [wrap_step hi hb]
      exact hK k (by omega)

theorem alike_of {a b : S25} (h0 : a.f0 = b.f0) (h1 : a.f1 = b.f1) (h2 : a.f2.length = b.f2.length) (h3 : a.f3.length = b.f3.length) (h : Evt (fun k => spec_Alike.l0 k a.f3 (a.f3.length : Int) 0 a.f0 a.f1 a.f2 a.f3 b.f0 b.f1 b.f2 b.f3) true) : AlikeEv a b := by
  obtain ⟨K, hK⟩ := h
  refine ⟨K + 2, fun k hk1 => ?_⟩
  obtain ⟨k, rfl⟩ : ∃ q, k = q + 2 := ⟨k - 2, by omega⟩
  simp only [spec_Alike.f, spec_Alike.j0]
  rw [if_pos h0, if_pos (by rw [h1]), if_pos (by omega)]
  have : ((a.f2.length : Int) != (b.f2.length : Int)) = false := by simp [h2]
  rw [this]
  simp only [Bool.false_eq_true, if_false]
  exact hK k (by omega)

theorem alike_refl (B : Nat) (hB : B ≤ 4611686018427387904) : ∀ (m : Nat) (n : S25), SizeOf.sizeOf n ≤ m → well n → lim B n → AlikeEv n n
  | 0, n, h, _, _ => by cases n; simp at h
  | m + 1, ⟨a, t, ks, vs⟩, h, hw, hl => by
    simp only [lim] at hl
    simp only [well] at hw
    refine alike_of rfl rfl rfl rfl (alike_loop _ _ rfl (by show vs.length ≤ _; omega) (fun h6 => (hw.1 h6).2) (by show ks.length ≤ _; omega) ?_ vs.length 0 (by simp))
    intro i hi
    have hi : i < vs.length := hi
    have hv := List.getElem_mem hi
    have hA : AlikeEv vs[i] vs[i] := alike_refl B hB m vs[i] (by
      have := List.sizeOf_lt_of_mem hv
      simp at h
      omega) (wellL_get hw.2 hv) (limL_get hl.2.2 hv)
    split
    · rename_i h6
      obtain ⟨n1, n2⟩ := hw.1 h6
      have hk : i < ks.length := by omega
      exact ⟨ks[i], i, vs[i], vs[i], List.getElem?_eq_getElem hk, hk, List.getElem?_eq_getElem hk, fun q hq e => by
        have hq' : q < ks.length := by omega
        rw [List.getElem?_eq_getElem hq'] at e
        exact List.pairwise_iff_getElem.1 n1 q i hq' hk hq (Option.some.inj e), hi, List.getElem?_eq_getElem hi, List.getElem?_eq_getElem hi, hA⟩
    · exact ⟨vs[i], vs[i], List.getElem?_eq_getElem hi, List.getElem?_eq_getElem hi, hA⟩

theorem lk_at {n : S25} (hn : n.f2.Nodup) {i : Nat} {x : ByteArray} {v : S25} (h1 : n.f2[i]? = some x) (h2 : n.f3[i]? = some v) : lk n x = some v := by
  unfold lk
  generalize n.f2 = ks at hn h1
  generalize n.f3 = vs at h2
  induction ks generalizing vs i with
  | nil => simp at h1
  | cons a ks ih =>
    cases vs with
    | nil => simp at h2
    | cons u vs =>
      cases i with
      | zero => simp at h1 h2; simp [lkL, h1, h2]
      | succ i =>
        simp at h1 h2
        have hm : x ∈ ks := List.mem_of_getElem? h1
        have hne : a ≠ x := by rintro rfl; exact (List.nodup_cons.1 hn).1 hm
        simp only [lkL]
        rw [if_neg hne]
        exact ih (List.nodup_cons.1 hn).2 h1 vs h2

/-- What is like is alike to spec.Alike. -/
theorem like_alike {B : Nat} (hB : B ≤ 4611686018427387904) {a b : S25} (h : Like a b) : lim B a → lim B b → AlikeEv a b := by
  induction h with
  | leaf a h6 hw => intro ha _; exact alike_refl B hB _ a (Nat.le_refl _) hw ha
  | @obj a b g a6 b6 ht la l2 l3 na hg hL ih =>
    intro ha hb
    have ha' : a.f2.length ≤ B ∧ a.f3.length ≤ B ∧ limL B a.f3 := by obtain ⟨_, _, _, _⟩ := a; simpa only [lim] using ha
    have hb' : b.f2.length ≤ B ∧ b.f3.length ≤ B ∧ limL B b.f3 := by obtain ⟨_, _, _, _⟩ := b; simpa only [lim] using hb
    refine alike_of (by rw [a6, b6]) ht l2 l3 (alike_loop a b l3 (by omega) (fun _ => la) (by omega) ?_ a.f3.length 0 (by simp))
    intro i hi
    rw [if_pos a6]
    have hk : i < a.f2.length := by omega
    have e1 : a.f2[i]? = some a.f2[i] := List.getElem?_eq_getElem hk
    have e2 : a.f3[i]? = some a.f3[i] := List.getElem?_eq_getElem hi
    have hv := lk_at na e1 e2
    have hc := hg _ _ hv
    obtain ⟨j, j1, j2, j3, j4, j5⟩ := lkL_idx _ _ _ _ hc
    refine ⟨a.f2[i], j, a.f3[i], g a.f2[i], e1, j1, j3, j5, j2, e2, j4, ?_⟩
    exact ih _ _ hv (limL_get ha'.2.2 (List.getElem_mem hi)) (limL_get hb'.2.2 (List.mem_of_getElem? j4))
end Go.Proofs.YtdjogkfgegopfaaDoor.Pure
namespace Go.Proofs.YtdjogkfgegopfaaDoor.Pure
open Go.RowKit Go.Proofs.YtdjogkfgegopfaaDoor.MFnPaMergeAgain Go.Proofs.YtdjogkfgegopfaaDoorW.PrintWords
set_option linter.unusedVariables false

theorem rd_at {l : List S25} {i : Nat} (h : i < l.length) : rd_T25 l (i : Int) = l[i] := by
  simp [rd_T25, List.getD_eq_getElem?_getD, List.getElem?_eq_getElem h]

def NoNullsEv (n : S25) : Prop := Evt (fun k => spec_NoNulls.f k n.f0 n.f1 n.f2 n.f3) (noNulls n)

theorem noNulls_loop (a : Int) (t : ByteArray) (ks : List ByteArray) (l ws : List S25) (hb : l.length ≤ 4611686018427387904) (hs : ∀ v, v ∈ l → NoNullsEv v) :
    ∀ (m i : Nat), i + m = l.length → Evt (fun k => spec_NoNulls.l0 k l (l.length : Int) (i : Int) a t ks ws) (noNullsL (decide (a = 6)) (l.drop i))
  | 0, i, h => by
    refine ⟨1, fun k hk1 => ?_⟩
    obtain ⟨k, rfl⟩ : ∃ q, k = q + 1 := ⟨k - 1, by omega⟩
    simp only [spec_NoNulls.l0]
    rw [if_neg (by omega), List.drop_eq_nil_of_le (by omega)]
    rfl
  | m + 1, i, h => by
    obtain ⟨K, hK⟩ := noNulls_loop a t ks l ws hb hs m (i + 1) (by omega)
    have hi : i < l.length := by omega
    obtain ⟨K2, hK2⟩ := hs l[i] (List.getElem_mem hi)
    refine ⟨K + K2 + 1, fun k hk1 => ?_⟩
    obtain ⟨k, rfl⟩ : ∃ q, k = q + 1 := ⟨k - 1, by omega⟩
    have e2 : spec_NoNulls.f k l[i].f0 l[i].f1 l[i].f2 l[i].f3 = some (noNulls l[i]) := hK2 k (by omega)
    have e3 : spec_NoNulls.l0 k l (l.length : Int) ((i + 1 : Nat) : Int) a t ks ws = some (noNullsL (decide (a = 6)) (l.drop (i + 1))) := hK k (by omega)
    simp only [spec_NoNulls.l0]
    rw [if_pos (by omega), if_pos (by omega), if_pos (by omega), rd_at hi, e2, wrap_step hi hb, e3, List.drop_eq_getElem_cons hi]
    simp only [noNullsL, Option.bind_some]
    by_cases h6 : a = 6
    · rw [if_pos h6]
      by_cases h0 : l[i].f0 = 0
      · simp [h0, h6]
      · rw [if_neg h0]
        cases hn : noNulls l[i] <;> simp [h0]
    · rw [if_neg h6]
      cases hn : noNulls l[i] <;> simp [h6]

theorem noNulls_ev (B : Nat) (hB : B ≤ 4611686018427387904) : ∀ (m : Nat) (n : S25), SizeOf.sizeOf n ≤ m → lim B n → NoNullsEv n
  | 0, n, h, _ => by cases n; simp at h
  | m + 1, ⟨a, t, ks, vs⟩, h, hl => by
    simp only [lim] at hl
    obtain ⟨K, hK⟩ := noNulls_loop a t ks vs vs (by omega) (fun v hv => noNulls_ev B hB m v (by
      have := List.sizeOf_lt_of_mem hv
      simp at h
      omega) (limL_get hl.2.2 hv)) vs.length 0 (by simp)
    refine ⟨K + 1, fun k hk1 => ?_⟩
    obtain ⟨k, rfl⟩ : ∃ q, k = q + 1 := ⟨k - 1, by omega⟩
    simp only [spec_NoNulls.f, noNulls]
    exact hK k (by omega)

def KeepsEv (n : S25) : Prop := Evt (fun k => spec_KeepsNulls.f k n.f0 n.f1 n.f2 n.f3) (!arrFree n)

theorem keeps_loop (a : Int) (t : ByteArray) (ks : List ByteArray) (l ws : List S25) (hb : l.length ≤ 4611686018427387904) (hs : ∀ v, v ∈ l → KeepsEv v ∧ NoNullsEv v) :
    ∀ (m i : Nat), i + m = l.length → Evt (fun k => spec_KeepsNulls.l0 k l (l.length : Int) (i : Int) a t ks ws) (!arrFreeL (decide (a = 5)) (l.drop i))
  | 0, i, h => by
    refine ⟨1, fun k hk1 => ?_⟩
    obtain ⟨k, rfl⟩ : ∃ q, k = q + 1 := ⟨k - 1, by omega⟩
    simp only [spec_KeepsNulls.l0]
    rw [if_neg (by omega), List.drop_eq_nil_of_le (by omega)]
    rfl
  | m + 1, i, h => by
    obtain ⟨K, hK⟩ := keeps_loop a t ks l ws hb hs m (i + 1) (by omega)
    have hi : i < l.length := by omega
    obtain ⟨⟨K2, hK2⟩, ⟨K3, hK3⟩⟩ := hs l[i] (List.getElem_mem hi)
    refine ⟨K + K2 + K3 + 1, fun k hk1 => ?_⟩
    obtain ⟨k, rfl⟩ : ∃ q, k = q + 1 := ⟨k - 1, by omega⟩
    have e1 : spec_KeepsNulls.f k l[i].f0 l[i].f1 l[i].f2 l[i].f3 = some (!arrFree l[i]) := hK2 k (by omega)
    have e2 : spec_NoNulls.f k l[i].f0 l[i].f1 l[i].f2 l[i].f3 = some (noNulls l[i]) := hK3 k (by omega)
    have e3 : spec_KeepsNulls.l0 k l (l.length : Int) ((i + 1 : Nat) : Int) a t ks ws = some (!arrFreeL (decide (a = 5)) (l.drop (i + 1))) := hK k (by omega)
    simp only [spec_KeepsNulls.l0]
    rw [if_pos (by omega), if_pos (by omega), if_pos (by omega), rd_at hi, e1, e2, wrap_step hi hb, e3, List.drop_eq_getElem_cons hi]
    simp only [arrFreeL, Option.bind_some]
    by_cases h6 : a = 5
    · rw [if_pos h6]
      cases hn : noNulls l[i] <;> cases ha : arrFree l[i] <;> simp [h6]
    · rw [if_neg h6]
      cases ha : arrFree l[i] <;> simp [h6]

theorem keeps_ev (B : Nat) (hB : B ≤ 4611686018427387904) : ∀ (m : Nat) (n : S25), SizeOf.sizeOf n ≤ m → lim B n → KeepsEv n
  | 0, n, h, _ => by cases n; simp at h
  | m + 1, ⟨a, t, ks, vs⟩, h, hl => by
    simp only [lim] at hl
    obtain ⟨K, hK⟩ := keeps_loop a t ks vs vs (by omega) (fun v hv => by
      have hz : SizeOf.sizeOf v ≤ m := by
        have := List.sizeOf_lt_of_mem hv
        simp at h
        omega
      exact ⟨keeps_ev B hB m v hz (limL_get hl.2.2 hv), noNulls_ev B hB m v hz (limL_get hl.2.2 hv)⟩) vs.length 0 (by simp)
    refine ⟨K + 1, fun k hk1 => ?_⟩
    obtain ⟨k, rfl⟩ : ∃ q, k = q + 1 := ⟨k - 1, by omega⟩
    simp only [spec_KeepsNulls.f, arrFree]
    exact hK k (by omega)
end Go.Proofs.YtdjogkfgegopfaaDoor.Pure
namespace Go.Proofs.YtdjogkfgegopfaaDoor.Pure
open Go.RowKit Go.Proofs.YtdjogkfgegopfaaDoor.MFnPaMergeAgain Go.Proofs.YtdjogkfgegopfaaDoorW.PrintWords
set_option linter.unusedVariables false

def Ends {α : Type} (f : Nat → Option α) : Prop := ∃ r, Evt f r

theorem size_loop (a : Int) (t : ByteArray) (ks : List ByteArray) (l : List S25) (hb : l.length ≤ 4611686018427387904) (hs : ∀ v : S25, v ∈ l → Ends (fun k => spec_Size.f k v.f0 v.f1 v.f2 v.f3)) :
    ∀ (m i : Nat) (z : Int), i + m = l.length → Ends (fun k => spec_Size.l0 k z (i : Int) a t ks l)
  | 0, i, z, h => by
    refine ⟨z, 1, fun k hk1 => ?_⟩
    obtain ⟨k, rfl⟩ : ∃ q, k = q + 1 := ⟨k - 1, by omega⟩
    simp only [spec_Size.l0]
    rw [if_neg (by omega)]
  | m + 1, i, z, h => by
    have hi : i < l.length := by omega
    obtain ⟨r, K2, hK2⟩ := hs l[i] (List.getElem_mem hi)
    obtain ⟨r2, K, hK⟩ := size_loop a t ks l hb hs m (i + 1) (wrap64 (z + r)) (by omega)
    refine ⟨r2, K + K2 + 1, fun k hk1 => ?_⟩
    obtain ⟨k, rfl⟩ : ∃ q, k = q + 1 := ⟨k - 1, by omega⟩
    have e2 : spec_Size.f k l[i].f0 l[i].f1 l[i].f2 l[i].f3 = some r := hK2 k (by omega)
    have e3 : spec_Size.l0 k (wrap64 (z + r)) ((i + 1 : Nat) : Int) a t ks l = some r2 := hK k (by omega)
    simp only [spec_Size.l0]
    rw [if_pos (by omega), if_pos (by omega), rd_at hi, e2]
    simp only [Option.bind_some]
    rw [wrap_step hi hb, e3]

theorem size_ends (B : Nat) (hB : B ≤ 4611686018427387904) : ∀ (m : Nat) (n : S25), SizeOf.sizeOf n ≤ m → lim B n → Ends (fun k => spec_Size.f k n.f0 n.f1 n.f2 n.f3)
  | 0, n, h, _ => by cases n; simp at h
  | m + 1, ⟨a, t, ks, vs⟩, h, hl => by
    simp only [lim] at hl
    obtain ⟨r, K, hK⟩ := size_loop a t ks vs (by omega) (fun v hv => size_ends B hB m v (by
      have := List.sizeOf_lt_of_mem hv
      simp at h
      omega) (limL_get hl.2.2 hv)) vs.length 0 1 (by simp)
    refine ⟨r, K + 1, fun k hk1 => ?_⟩
    obtain ⟨k, rfl⟩ : ∃ q, k = q + 1 := ⟨k - 1, by omega⟩
    simp only [spec_Size.f]
    exact hK k (by omega)

theorem depth_loop (a : Int) (t : ByteArray) (ks : List ByteArray) (l : List S25) (hb : l.length ≤ 4611686018427387904) (hs : ∀ v : S25, v ∈ l → Ends (fun k => spec_Depth.f k v.f0 v.f1 v.f2 v.f3)) :
    ∀ (m i : Nat) (z : Int), i + m = l.length → Ends (fun k => spec_Depth.l0 k z (i : Int) a t ks l)
  | 0, i, z, h => by
    refine ⟨wrap64 (z + 1), 1, fun k hk1 => ?_⟩
    obtain ⟨k, rfl⟩ : ∃ q, k = q + 1 := ⟨k - 1, by omega⟩
    simp only [spec_Depth.l0]
    rw [if_neg (by omega)]
  | m + 1, i, z, h => by
    have hi : i < l.length := by omega
    obtain ⟨r, K2, hK2⟩ := hs l[i] (List.getElem_mem hi)
    obtain ⟨r2, K, hK⟩ := depth_loop a t ks l hb hs m (i + 1) (mx z r) (by omega)
    refine ⟨r2, K + K2 + 1, fun k hk1 => ?_⟩
    obtain ⟨k, rfl⟩ : ∃ q, k = q + 1 := ⟨k - 1, by omega⟩
    have e2 : spec_Depth.f k l[i].f0 l[i].f1 l[i].f2 l[i].f3 = some r := hK2 k (by omega)
    have e3 : spec_Depth.l0 k (mx z r) ((i + 1 : Nat) : Int) a t ks l = some r2 := hK k (by omega)
    simp only [spec_Depth.l0]
    rw [if_pos (by omega), if_pos (by omega), rd_at hi, e2]
    simp only [Option.bind_some]
    rw [wrap_step hi hb, e3]

theorem depth_ends (B : Nat) (hB : B ≤ 4611686018427387904) : ∀ (m : Nat) (n : S25), SizeOf.sizeOf n ≤ m → lim B n → Ends (fun k => spec_Depth.f k n.f0 n.f1 n.f2 n.f3)
  | 0, n, h, _ => by cases n; simp at h
  | m + 1, ⟨a, t, ks, vs⟩, h, hl => by
    simp only [lim] at hl
    obtain ⟨r, K, hK⟩ := depth_loop a t ks vs (by omega) (fun v hv => depth_ends B hB m v (by
      have := List.sizeOf_lt_of_mem hv
      simp at h
      omega) (limL_get hl.2.2 hv)) vs.length 0 0 (by simp)
    by_cases h5 : a = 5
    · refine ⟨r, K + 2, fun k hk1 => ?_⟩
      obtain ⟨k, rfl⟩ : ∃ q, k = q + 2 := ⟨k - 2, by omega⟩
      simp only [spec_Depth.f, spec_Depth.j0]
      rw [if_pos h5]
      simp only [Bool.false_eq_true, if_false]
      exact hK k (by omega)
    · by_cases h6 : a = 6
      · refine ⟨r, K + 2, fun k hk1 => ?_⟩
        obtain ⟨k, rfl⟩ : ∃ q, k = q + 2 := ⟨k - 2, by omega⟩
        have e : (a != 6) = false := by simp [h6]
        simp only [spec_Depth.f, spec_Depth.j0]
        rw [if_neg h5, e]
        simp only [Bool.false_eq_true, if_false]
        exact hK k (by omega)
      · refine ⟨0, 2, fun k hk1 => ?_⟩
        obtain ⟨k, rfl⟩ : ∃ q, k = q + 2 := ⟨k - 2, by omega⟩
        have e : (a != 6) = true := by simp [h6]
        simp only [spec_Depth.f, spec_Depth.j0]
        rw [if_neg h5, e]
        simp
end Go.Proofs.YtdjogkfgegopfaaDoor.Pure
namespace Go.Proofs.YtdjogkfgegopfaaDoor.Pure
open Go.RowKit Go.Proofs.YtdjogkfgegopfaaDoor.MFnPaMergeAgain Go.Proofs.YtdjogkfgegopfaaDoorW.PrintWords
set_option linter.unusedVariables false

mutual
def uniq : S25 → Prop
  | ⟨_, _, ks, vs⟩ => ks.Nodup ∧ uniqL vs
def uniqL : List S25 → Prop
  | [] => True
  | v :: r => uniq v ∧ uniqL r
end

/-- The search from the end: where it ends at i, no place behind i up to the start holds x. -/
theorem at_loop (a : Int) (t : ByteArray) (ks : List ByteArray) (vs : List S25) (x : ByteArray) (hb : ks.length ≤ 4611686018427387904) :
    ∀ (i : Nat), i ≤ ks.length → ∃ r : Int, Evt (fun k => spec_at.l0 k x ((i : Int) - 1) a t ks vs) r ∧ ∀ j, j < i → ks[j]? = some x → (j : Int) ≤ r
  | 0, _ => by
    refine ⟨-1, ⟨1, fun k hk1 => ?_⟩, fun j hj => absurd hj (Nat.not_lt_zero _)⟩
    obtain ⟨k, rfl⟩ : ∃ q, k = q + 1 := ⟨k - 1, by omega⟩
    simp only [spec_at.l0]
    rw [if_neg (by omega)]
  | i + 1, h => by
    have hi : i < ks.length := by omega
    have e0 : ((i + 1 : Nat) : Int) - 1 = (i : Int) := by omega
    have e : rdOf ByteArray.empty ks (i : Int) = ks[i] := by simp [rdOf, List.getD_eq_getElem?_getD, List.getElem?_eq_getElem hi]
    by_cases hx : ks[i].toList = x.toList
    · refine ⟨i, ⟨1, fun k hk1 => ?_⟩, fun j hj _ => by omega⟩
      obtain ⟨k, rfl⟩ : ∃ q, k = q + 1 := ⟨k - 1, by omega⟩
      show spec_at.l0 (k + 1) x (((i + 1 : Nat) : Int) - 1) a t ks vs = _
      rw [e0]
      simp only [spec_at.l0]
      rw [if_pos (by omega), if_pos (by omega), if_pos (by omega), e, if_pos hx]
    · obtain ⟨r, ⟨K, hK⟩, hr⟩ := at_loop a t ks vs x hb i (by omega)
      refine ⟨r, ⟨K + 1, fun k hk1 => ?_⟩, fun j hj hjx => ?_⟩
      · obtain ⟨k, rfl⟩ : ∃ q, k = q + 1 := ⟨k - 1, by omega⟩
        show spec_at.l0 (k + 1) x (((i + 1 : Nat) : Int) - 1) a t ks vs = _
        rw [e0]
        simp only [spec_at.l0]
        have ew : wrap64 ((i : Int) - 1) = (i : Int) - 1 := by simp only [wrap64]; omega
        rw [if_pos (by omega), if_pos (by omega), if_pos (by omega), e, if_neg hx, ew]
        exact hK k (by omega)
      · by_cases hji : j = i
        · subst hji
          rw [List.getElem?_eq_getElem hi] at hjx
          exact absurd (by rw [Option.some.inj hjx]) hx
        · exact hr j (by omega) hjx

theorem at_ev (a : Int) (t : ByteArray) (ks : List ByteArray) (vs : List S25) (x : ByteArray) (hb : ks.length ≤ 4611686018427387904) :
    ∃ r : Int, Evt (fun k => spec_at.f k a t ks vs x) r ∧ ∀ j : Nat, ks[j]? = some x → (j : Int) ≤ r := by
  obtain ⟨r, ⟨K, hK⟩, hr⟩ := at_loop a t ks vs x hb ks.length (Nat.le_refl _)
  refine ⟨r, ⟨K, fun k hk => ?_⟩, fun j hj => hr j (by
    rcases Nat.lt_or_ge j ks.length with h | h
    · exact h
    · rw [List.getElem?_eq_none h] at hj; cases hj) hj⟩
  have ew : wrap64 ((ks.length : Int) - 1) = (ks.length : Int) - 1 := by simp only [wrap64]; omega
  show spec_at.l0 k x (wrap64 ((ks.length : Int) - 1)) a t ks vs = some r
  rw [ew]
  exact hK k hk

/-- The kids' loop of Unique. -/
theorem uniq_l1 (a : Int) (t : ByteArray) (ks : List ByteArray) (l : List S25) (hb : l.length ≤ 4611686018427387904) (hs : ∀ v : S25, v ∈ l → ∃ r, Evt (fun k => spec_Unique.f k v.f0 v.f1 v.f2 v.f3) r ∧ (r = true → uniq v)) :
    ∀ (m i : Nat), i + m = l.length → ∃ r, Evt (fun k => spec_Unique.l1 k (i : Int) a t ks l) r ∧ (r = true → uniqL (l.drop i))
  | 0, i, h => by
    refine ⟨true, ⟨1, fun k hk1 => ?_⟩, fun _ => by rw [List.drop_eq_nil_of_le (by omega)]; exact trivial⟩
    obtain ⟨k, rfl⟩ : ∃ q, k = q + 1 := ⟨k - 1, by omega⟩
    simp only [spec_Unique.l1]
    rw [if_neg (by omega)]
  | m + 1, i, h => by
    have hi : i < l.length := by omega
    obtain ⟨r, ⟨K2, hK2⟩, hr⟩ := hs l[i] (List.getElem_mem hi)
    obtain ⟨r2, ⟨K, hK⟩, hr2⟩ := uniq_l1 a t ks l hb hs m (i + 1) (by omega)
    refine ⟨r && r2, ⟨K + K2 + 1, fun k hk1 => ?_⟩, fun hrr => ?_⟩
    · obtain ⟨k, rfl⟩ : ∃ q, k = q + 1 := ⟨k - 1, by omega⟩
      have e2 : spec_Unique.f k l[i].f0 l[i].f1 l[i].f2 l[i].f3 = some r := hK2 k (by omega)
      have e3 : spec_Unique.l1 k ((i + 1 : Nat) : Int) a t ks l = some r2 := hK k (by omega)
      simp only [spec_Unique.l1]
      rw [if_pos (by omega), if_pos (by omega), rd_at hi, e2]
      simp only [Option.bind_some]
      rw [wrap_step hi hb, e3]
      cases r <;> simp
    · rw [Bool.and_eq_true] at hrr
      rw [List.drop_eq_getElem_cons hi]
      simp only [uniqL]
      exact ⟨hr hrr.1, hr2 hrr.2⟩

theorem uniq_l0 (a : Int) (t : ByteArray) (ks : List ByteArray) (l : List S25) (hb : l.length ≤ 4611686018427387904) (hbk : ks.length ≤ 4611686018427387904) (hs : ∀ v : S25, v ∈ l → ∃ r, Evt (fun k => spec_Unique.f k v.f0 v.f1 v.f2 v.f3) r ∧ (r = true → uniq v)) :
    ∀ (m i : Nat), i + m = ks.length → ∃ r, Evt (fun k => spec_Unique.l0 k (i : Int) a t ks l) r ∧ (r = true → uniqL l ∧ ∀ (q : Nat) (x : ByteArray), i ≤ q → ks[q]? = some x → ∀ j : Nat, ks[j]? = some x → j ≤ q)
  | 0, i, h => by
    obtain ⟨r, ⟨K, hK⟩, hr⟩ := uniq_l1 a t ks l hb hs l.length 0 (by simp)
    refine ⟨r, ⟨K + 1, fun k hk1 => ?_⟩, fun hrr => ⟨by simpa using hr hrr, fun q x hq hx => ?_⟩⟩
    · obtain ⟨k, rfl⟩ : ∃ q, k = q + 1 := ⟨k - 1, by omega⟩
      simp only [spec_Unique.l0]
      rw [if_neg (by omega)]
      exact hK k (by omega)
    · rw [List.getElem?_eq_none (by omega)] at hx
      cases hx
  | m + 1, i, h => by
    have hi : i < ks.length := by omega
    have e : rdOf ByteArray.empty ks (i : Int) = ks[i] := by simp [rdOf, List.getD_eq_getElem?_getD, List.getElem?_eq_getElem hi]
    obtain ⟨z, ⟨K2, hK2⟩, hz⟩ := at_ev a t ks l ks[i] hbk
    obtain ⟨r2, ⟨K, hK⟩, hr2⟩ := uniq_l0 a t ks l hb hbk hs m (i + 1) (by omega)
    refine ⟨decide (z = (i : Int)) && r2, ⟨K + K2 + 1, fun k hk1 => ?_⟩, fun hrr => ?_⟩
    · obtain ⟨k, rfl⟩ : ∃ q, k = q + 1 := ⟨k - 1, by omega⟩
      have e2 : spec_at.f k a t ks l ks[i] = some z := hK2 k (by omega)
      have e3 : spec_Unique.l0 k ((i + 1 : Nat) : Int) a t ks l = some r2 := hK k (by omega)
      simp only [spec_Unique.l0]
      rw [if_pos (by omega), if_pos (by omega), e, e2]
      simp only [Option.bind_some]
      rw [wrap_step hi hbk, e3]
      by_cases hzi : z = (i : Int) <;> simp [hzi]
    · rw [Bool.and_eq_true, decide_eq_true_eq] at hrr
      obtain ⟨h1, h2⟩ := hr2 hrr.2
      refine ⟨h1, fun q x hq hx j hj => ?_⟩
      by_cases hqi : q = i
      · subst hqi
        rw [List.getElem?_eq_getElem hi] at hx
        have := hz j (by rw [hj]; exact hx.symm)
        omega
      · exact h2 q x (by omega) hx j hj

theorem unique_ev (B : Nat) (hB : B ≤ 4611686018427387904) : ∀ (m : Nat) (n : S25), SizeOf.sizeOf n ≤ m → lim B n → ∃ r, Evt (fun k => spec_Unique.f k n.f0 n.f1 n.f2 n.f3) r ∧ (r = true → uniq n)
  | 0, n, h, _ => by cases n; simp at h
  | m + 1, ⟨a, t, ks, vs⟩, h, hl => by
    simp only [lim] at hl
    obtain ⟨r, ⟨K, hK⟩, hr⟩ := uniq_l0 a t ks vs (by omega) (by omega) (fun v hv => unique_ev B hB m v (by
      have := List.sizeOf_lt_of_mem hv
      simp at h
      omega) (limL_get hl.2.2 hv)) ks.length 0 (by simp)
    refine ⟨r, ⟨K + 1, fun k hk1 => ?_⟩, fun hrr => ?_⟩
    · obtain ⟨k, rfl⟩ : ∃ q, k = q + 1 := ⟨k - 1, by omega⟩
      simp only [spec_Unique.f]
      exact hK k (by omega)
    · obtain ⟨h1, h2⟩ := hr hrr
      simp only [uniq]
      refine ⟨List.pairwise_iff_getElem.2 fun p q hp hq hpq he => ?_, h1⟩
      have := h2 p ks[p] (Nat.zero_le _) (List.getElem?_eq_getElem hp) q (by rw [List.getElem?_eq_getElem hq, he])
      omega
end Go.Proofs.YtdjogkfgegopfaaDoor.Pure
namespace Go.Proofs.YtdjogkfgegopfaaDoor.Pure
open Go.RowKit Go.Proofs.YtdjogkfgegopfaaDoor.MFnPaMergeAgain Go.Proofs.YtdjogkfgegopfaaDoorW.PrintWords
set_option linter.unusedVariables false

/-- Ends, and what the result is like. -/
def EndsP {α : Type} (f : Nat → Option α) (P : α → Prop) : Prop := ∃ r, Evt f r ∧ P r
theorem EndsP.pure {α : Type} {r : α} {P : α → Prop} (h : P r) : EndsP (fun _ => some r) P := ⟨r, ⟨0, fun _ _ => rfl⟩, h⟩
theorem EndsP.succ {α : Type} {f g : Nat → Option α} {P : α → Prop} (h : EndsP f P) (e : ∀ k, g (k + 1) = f k) : EndsP g P := by
  obtain ⟨r, ⟨K, hK⟩, hp⟩ := h
  refine ⟨r, ⟨K + 1, fun k hk => ?_⟩, hp⟩
  obtain ⟨k, rfl⟩ : ∃ q, k = q + 1 := ⟨k - 1, by omega⟩
  rw [e]
  exact hK k (by omega)
theorem EndsP.bind {α β : Type} {f : Nat → Option α} {g : Nat → α → Option β} {P : α → Prop} {Q : β → Prop} (h : EndsP f P) (h2 : ∀ r, P r → EndsP (fun k => g k r) Q) : EndsP (fun k => (f k).bind (g k)) Q := by
  obtain ⟨r, ⟨K, hK⟩, hp⟩ := h
  obtain ⟨q, ⟨K2, hK2⟩, hq⟩ := h2 r hp
  refine ⟨q, ⟨K + K2, fun k hk => ?_⟩, hq⟩
  show (f k).bind (g k) = _
  rw [hK k (by omega)]
  exact hK2 k (by omega)
theorem EndsP.ite {α : Type} {c : Prop} [Decidable c] {f g : Nat → Option α} {P : α → Prop} (h1 : c → EndsP f P) (h2 : ¬ c → EndsP g P) : EndsP (fun k => if c then f k else g k) P := by
  by_cases h : c
  · simp only [if_pos h]; exact h1 h
  · simp only [if_neg h]; exact h2 h
theorem EndsP.mono {α : Type} {f : Nat → Option α} {P Q : α → Prop} (h : EndsP f P) (hq : ∀ r, P r → Q r) : EndsP f Q := by
  obtain ⟨r, h1, h2⟩ := h
  exact ⟨r, h1, hq r h2⟩
theorem EndsP.of_ends {α : Type} {f : Nat → Option α} (h : ∃ r, Evt f r) : EndsP f (fun _ => True) := by
  obtain ⟨r, h⟩ := h
  exact ⟨r, h, trivial⟩

/-! ### UTF-8 -/
def CharOk (r : Int × Int × Bool) : Prop := r.2.2 = true → 1 ≤ r.2.1 ∧ r.2.1 ≤ 4
theorem high_e (x : Int) : EndsP (fun _ => spec_high.f x) (fun _ => True) := by
  unfold spec_high.f
  exact .ite (fun _ => .pure trivial) (fun _ => .pure trivial)
theorem low_e (x : Int) : EndsP (fun _ => spec_low.f x) (fun _ => True) := by
  unfold spec_low.f
  exact .ite (fun _ => .pure trivial) (fun _ => .pure trivial)
theorem char_l0 (s : ByteArray) (a n mm : Int) (ha : 0 ≤ a) (hs : a + n < s.size) (hz : s.size ≤ 4611686018427387904) (n1 : 1 ≤ n) (n3 : n ≤ 3) : ∀ (m : Nat) (z i : Int), 1 ≤ i → (n + 1 - i).toNat = m → EndsP (fun k => spec_Character.l0 k s a z n mm i) CharOk
  | 0, z, i, h1, h => by
    refine EndsP.succ (f := fun k => _) ?_ (fun k => by simp only [spec_Character.l0]; rfl)
    refine .ite (fun h => by omega) (fun _ => ?_)
    refine .ite (fun _ => .pure (fun h => by cases h)) (fun _ => ?_)
    refine .ite (fun _ => .pure (fun h => by cases h)) (fun _ => ?_)
    refine .bind (high_e z) (fun r _ => ?_)
    refine .ite (fun _ => .pure (fun h => by cases h)) (fun _ => ?_)
    refine .bind (low_e z) (fun r _ => ?_)
    refine .ite (fun _ => .pure (fun h => by cases h)) (fun _ => ?_)
    refine .pure (fun _ => ?_)
    show 1 ≤ wrap64 (n + 1) ∧ wrap64 (n + 1) ≤ 4
    simp only [wrap64]
    omega
  | m + 1, z, i, h1, h => by
    have e1 : wrap64 (a + i) = a + i := by simp only [wrap64]; omega
    have e2 : wrap64 (i + 1) = i + 1 := by simp only [wrap64]; omega
    refine EndsP.succ (f := fun k => _) ?_ (fun k => by simp only [spec_Character.l0]; rfl)
    refine .ite (fun _ => ?_) (fun h => by omega)
    rw [e1]
    refine .ite (fun _ => ?_) (fun h => by omega)
    refine .ite (fun _ => ?_) (fun h => by omega)
    refine .ite (fun _ => .pure (fun h => by cases h)) (fun _ => ?_)
    refine .ite (fun _ => .pure (fun h => by cases h)) (fun _ => ?_)
    rw [e2]
    exact char_l0 s a n mm ha hs hz n1 n3 m _ (i + 1) (by omega) (by omega)
theorem char_j2 (s : ByteArray) (a z n mm : Int) (ha : 0 ≤ a) (h : a < s.size) (hz : s.size ≤ 4611686018427387904) (n1 : 1 ≤ n) (n3 : n ≤ 3) : EndsP (fun k => spec_Character.j2 k s a z n mm) CharOk := by
  have e1 : wrap64 ((s.size : Int) - a) = (s.size : Int) - a := by simp only [wrap64]; omega
  refine EndsP.succ (f := fun k => _) ?_ (fun k => by simp only [spec_Character.j2]; rfl)
  rw [e1]
  refine .ite (fun _ => .pure (fun h => by cases h)) (fun h => ?_)
  exact char_l0 s a n mm ha (by omega) hz n1 n3 _ z 1 (by omega) rfl
theorem char_j1 (s : ByteArray) (a z : Int) (b : Bool) (ha : 0 ≤ a) (h : a < s.size) (hz : s.size ≤ 4611686018427387904) : EndsP (fun k => spec_Character.j1 k s a z b) CharOk := by
  refine EndsP.succ (f := fun k => _) ?_ (fun k => by simp only [spec_Character.j1]; rfl)
  refine .ite (fun _ => char_j2 s a _ 2 _ ha h hz (by omega) (by omega)) (fun _ => ?_)
  refine .ite (fun _ => ?_) (fun _ => .pure (fun h => by cases h))
  exact .ite (fun _ => char_j2 s a _ 3 _ ha h hz (by omega) (by omega)) (fun _ => .pure (fun h => by cases h))
theorem char_j0 (s : ByteArray) (a z : Int) (b : Bool) (ha : 0 ≤ a) (h : a < s.size) (hz : s.size ≤ 4611686018427387904) : EndsP (fun k => spec_Character.j0 k s a z b) CharOk := by
  refine EndsP.succ (f := fun k => _) ?_ (fun k => by simp only [spec_Character.j0]; rfl)
  refine .ite (fun _ => char_j2 s a _ 1 _ ha h hz (by omega) (by omega)) (fun _ => ?_)
  exact .ite (fun _ => char_j1 s a z _ ha h hz) (fun _ => char_j1 s a z _ ha h hz)
theorem char_e (s : ByteArray) (a : Int) (ha : 0 ≤ a) (h : a < s.size) (hz : s.size ≤ 4611686018427387904) : EndsP (fun k => spec_Character.f k s a) CharOk := by
  simp only [spec_Character.f]
  refine .ite (fun _ => ?_) (fun q => absurd ha q)
  refine .ite (fun _ => ?_) (fun q => absurd h q)
  refine .ite (fun _ => .pure (fun _ => ⟨Int.le_refl 1, (by decide : (1 : Int) ≤ 4)⟩)) (fun _ => ?_)
  exact .ite (fun _ => char_j0 s a _ _ ha h hz) (fun _ => char_j0 s a _ _ ha h hz)
theorem utf8_l0 (s : ByteArray) (hz : s.size ≤ 4611686018427387904) : ∀ (m : Nat) (a : Int), 0 ≤ a → ((s.size : Int) + 1 - a).toNat ≤ m → EndsP (fun k => spec_UTF8.l0 k s a) (fun _ => True)
  | 0, a, ha, h => by
    refine EndsP.succ (f := fun k => _) ?_ (fun k => by simp only [spec_UTF8.l0]; rfl)
    exact .ite (fun h => by omega) (fun _ => .pure trivial)
  | m + 1, a, ha, h => by
    refine EndsP.succ (f := fun k => _) ?_ (fun k => by simp only [spec_UTF8.l0]; rfl)
    refine .ite (fun hlt => ?_) (fun _ => .pure trivial)
    refine .bind (char_e s a ha hlt hz) (fun r hr => ?_)
    refine .ite (fun q => ?_) (fun _ => .pure trivial)
    have hq := hr q
    have e : wrap64 (a + r.2.1) = a + r.2.1 := by simp only [wrap64]; omega
    rw [e]
    exact utf8_l0 s hz m _ (by omega) (by omega)
theorem utf8_e (s : ByteArray) (hz : s.size ≤ 4611686018427387904) : EndsP (fun k => spec_UTF8.f k s) (fun _ => True) := by
  simp only [spec_UTF8.f]
  exact utf8_l0 s hz _ 0 (by omega) (Nat.le_refl _)

/-! ### Trees of texts and lists of at most B -/
mutual
def big (B : Nat) : S25 → Prop
  | ⟨_, t, ks, vs⟩ => t.size ≤ B ∧ ks.length ≤ B ∧ vs.length ≤ B ∧ (∀ x, x ∈ ks → x.size ≤ B) ∧ bigL B vs
def bigL (B : Nat) : List S25 → Prop
  | [] => True
  | v :: r => big B v ∧ bigL B r
end
theorem bigL_get {B : Nat} : ∀ {l : List S25} {v : S25}, bigL B l → v ∈ l → big B v
  | u :: r, v, h, hv => by
    simp only [bigL] at h
    rcases List.mem_cons.1 hv with rfl | hv
    · exact h.1
    · exact bigL_get h.2 hv
mutual
theorem big_lim {B : Nat} : ∀ (t : S25), big B t → lim B t
  | ⟨_, t, ks, vs⟩, h => by
    simp only [big] at h
    simp only [lim]
    exact ⟨h.2.1, h.2.2.1, bigL_lim vs h.2.2.2.2⟩
theorem bigL_lim {B : Nat} : ∀ (l : List S25), bigL B l → limL B l
  | [], _ => by simp [limL]
  | v :: r, h => by
    simp only [bigL] at h
    simp only [limL]
    exact ⟨big_lim v h.1, bigL_lim r h.2⟩
end

theorem fits1_l0 (ks : List ByteArray) (hb : ks.length ≤ 4611686018427387904) : ∀ (m i : Nat), i + m = ks.length → EndsP (fun k => laws_zzFits1.l0 k ks (ks.length : Int) (i : Int)) (fun _ => True)
  | 0, i, h => by
    refine EndsP.succ (f := fun k => _) ?_ (fun k => by simp only [laws_zzFits1.l0]; rfl)
    exact .ite (fun h => by omega) (fun _ => .pure trivial)
  | m + 1, i, h => by
    have hi : i < ks.length := by omega
    refine EndsP.succ (f := fun k => _) ?_ (fun k => by simp only [laws_zzFits1.l0]; rfl)
    refine .ite (fun _ => ?_) (fun _ => .pure trivial)
    refine .ite (fun _ => ?_) (fun h => by omega)
    refine .ite (fun _ => ?_) (fun h => by omega)
    refine .ite (fun _ => .pure trivial) (fun _ => ?_)
    rw [wrap_step hi hb]
    exact fits1_l0 ks hb m (i + 1) (by omega)
theorem fits2_e (B : Nat) (hB : B ≤ 4611686018427387904) (n : S25) (h : big B n) : EndsP (fun k => laws_zzFits2.f k n.f0 n.f1 n.f2 n.f3) (fun _ => True) := by
  obtain ⟨a, t, ks, vs⟩ := n
  simp only [big] at h
  simp only [laws_zzFits2.f, laws_zzFits1.f]
  refine .ite (fun _ => .pure trivial) (fun _ => ?_)
  refine .bind (P := fun _ => True) ?_ (fun r _ => ?_)
  · exact .ite (fun _ => .pure trivial) (fun _ => fits1_l0 ks (by omega) ks.length 0 (by simp))
  · refine .ite (fun _ => ?_) (fun _ => .pure trivial)
    exact .ite (fun _ => .pure trivial) (fun _ => .pure trivial)

theorem all8_l1 (a : Int) (t : ByteArray) (ks : List ByteArray) (l : List S25) (hb : l.length ≤ 4611686018427387904) (hs : ∀ v : S25, v ∈ l → EndsP (fun k => spec_AllUTF8.f k v.f0 v.f1 v.f2 v.f3) (fun _ => True)) :
    ∀ (m i : Nat), i + m = l.length → EndsP (fun k => spec_AllUTF8.l1 k (i : Int) a t ks l) (fun _ => True)
  | 0, i, h => by
    refine EndsP.succ (f := fun k => _) ?_ (fun k => by simp only [spec_AllUTF8.l1]; rfl)
    exact .ite (fun h => by omega) (fun _ => .pure trivial)
  | m + 1, i, h => by
    have hi : i < l.length := by omega
    refine EndsP.succ (f := fun k => _) ?_ (fun k => by simp only [spec_AllUTF8.l1]; rfl)
    refine .ite (fun _ => ?_) (fun _ => .pure trivial)
    refine .ite (fun _ => ?_) (fun h => by omega)
    rw [rd_at hi]
    refine .bind (hs l[i] (List.getElem_mem hi)) (fun r _ => ?_)
    refine .ite (fun _ => ?_) (fun _ => .pure trivial)
    rw [wrap_step hi hb]
    exact all8_l1 a t ks l hb hs m (i + 1) (by omega)
theorem all8_l0 (a : Int) (t : ByteArray) (ks : List ByteArray) (l : List S25) (hb : l.length ≤ 4611686018427387904) (hbk : ks.length ≤ 4611686018427387904) (hk : ∀ x, x ∈ ks → x.size ≤ 4611686018427387904) (hs : ∀ v : S25, v ∈ l → EndsP (fun k => spec_AllUTF8.f k v.f0 v.f1 v.f2 v.f3) (fun _ => True)) :
    ∀ (m i : Nat), i + m = ks.length → EndsP (fun k => spec_AllUTF8.l0 k (i : Int) a t ks l) (fun _ => True)
  | 0, i, h => by
    refine EndsP.succ (f := fun k => _) ?_ (fun k => by simp only [spec_AllUTF8.l0]; rfl)
    exact .ite (fun h => by omega) (fun _ => all8_l1 a t ks l hb hs l.length 0 (by simp))
  | m + 1, i, h => by
    have hi : i < ks.length := by omega
    have e : rdOf ByteArray.empty ks (i : Int) = ks[i] := by simp [rdOf, List.getD_eq_getElem?_getD, List.getElem?_eq_getElem hi]
    refine EndsP.succ (f := fun k => _) ?_ (fun k => by simp only [spec_AllUTF8.l0]; rfl)
    refine .ite (fun _ => ?_) (fun h => by omega)
    refine .ite (fun _ => ?_) (fun h => by omega)
    rw [e]
    refine .bind (utf8_e ks[i] (hk _ (List.getElem_mem hi))) (fun r _ => ?_)
    refine .ite (fun _ => ?_) (fun _ => .pure trivial)
    rw [wrap_step hi hbk]
    exact all8_l0 a t ks l hb hbk hk hs m (i + 1) (by omega)
theorem all8_e (B : Nat) (hB : B ≤ 4611686018427387904) : ∀ (m : Nat) (n : S25), SizeOf.sizeOf n ≤ m → big B n → EndsP (fun k => spec_AllUTF8.f k n.f0 n.f1 n.f2 n.f3) (fun _ => True)
  | 0, n, h, _ => by cases n; simp at h
  | m + 1, ⟨a, t, ks, vs⟩, h, hl => by
    simp only [big] at hl
    refine EndsP.succ (f := fun k => _) ?_ (fun k => by simp only [spec_AllUTF8.f]; rfl)
    refine .bind (utf8_e t (by omega)) (fun r _ => ?_)
    refine .ite (fun _ => ?_) (fun _ => .pure trivial)
    exact all8_l0 a t ks vs (by omega) (by omega) (fun x hx => by have := hl.2.2.2.1 x hx; omega) (fun v hv => all8_e B hB m v (by
      have := List.sizeOf_lt_of_mem hv
      simp at h
      omega) (bigL_get hl.2.2.2.2 hv)) ks.length 0 (by simp)
end Go.Proofs.YtdjogkfgegopfaaDoor.Pure
